/- What impl.Shuffled computes; the shuffled heads and tails are those of the names, in another order. -/
import Derived.Test.YtpmihkhmijndaaaDoorShuf
import Derived.Test.YtpmihkhmijndaaaDoorSorted
import Derived.Test.YtpmihkhmijndaaaDoorLaid
import Derived.Test.YtpmihkhmijndaaaDoorCntOpen
namespace Go.Proofs.YtpmihkhmijndaaaDoor.srt
open Go.ChangeShapes Go.WideShapes Go.ChangeAt Go.RowKit
open cnt (arr arr_get ic Rd)

theorem apart_of_perm {a b : List UInt8} (hp : a.Perm b) (hb : b.Nodup) : nm.Apart a := by
  have hn : a.Nodup := hp.symm.nodup hb
  intro i j hi hj e
  rw [List.getD_eq_getElem?_getD, List.getD_eq_getElem?_getD, List.getElem?_eq_getElem hi, List.getElem?_eq_getElem hj] at e
  have e' : a[i] = a[j] := e
  have hp2 := List.pairwise_iff_getElem.1 hn
  rcases Nat.lt_trichotomy i j with h | h | h
  · exact absurd e' (hp2 i j hi hj h)
  · exact h
  · exact absurd e'.symm (hp2 j i hj hi h)
theorem tail_nond (css : Bool) : (nm.tailL css).filter nond = nm.headL css := by cases css <;> decide +kernel
theorem tail_nodup (css : Bool) : (nm.tailL css).Nodup := by cases css <;> decide +kernel
theorem head_nodup (css : Bool) : (nm.headL css).Nodup := by cases css <;> decide +kernel
theorem tail63 (css : Bool) : (nm.tailB css).size = 63 ∨ (nm.tailB css).size = 64 := by cases css <;> decide
theorem tail64 (css : Bool) : (nm.tailB css).size ≤ 64 := by have := tail63 css; omega
theorem hperm {css : Bool} {cs : List Int} {s : List Nat} (h : IsSel (nm.tailB css).size cs s) : (headsOf (nm.tailB css) s).Perm (nm.headL css) := by
  have := heads_perm h
  have e : (nm.tailB css).data.toList.filter nond = nm.headL css := tail_nond css
  rwa [e] at this
theorem tperm {css : Bool} {cs : List Int} {s : List Nat} (h : IsSel (nm.tailB css).size cs s) : (tailsOf (nm.tailB css) s).Perm (nm.tailL css) := tails_perm h

theorem lens {css : Bool} {cs : List Int} {s : List Nat} (h : IsSel (nm.tailB css).size cs s) :
    0 < (headsOf (nm.tailB css) s).length ∧ (headsOf (nm.tailB css) s).length ≤ 1000 ∧ 2 ≤ (tailsOf (nm.tailB css) s).length ∧ (tailsOf (nm.tailB css) s).length ≤ 1000 := by
  have h1 := (hperm h).length_eq
  have h2 := (tperm h).length_eq
  rw [nm.head_len] at h1
  rw [nm.tail_len] at h2
  cases css <;> simp at h1 h2 <;> omega
theorem name_same {css : Bool} {cs : List Int} {s : List Nat} (h : IsSel (nm.tailB css).size cs s) (n : Nat) : (nm.name (headsOf (nm.tailB css) s) (tailsOf (nm.tailB css) s) n).length = (nm.name (nm.headL css) (nm.tailL css) n).length :=
  nm.name_len_of _ _ _ _ (hperm h).length_eq (tperm h).length_eq n
theorem shuf_inj {css : Bool} {cs : List Int} {s : List Nat} (h : IsSel (nm.tailB css).size cs s) (n k : Nat) (e : nm.name (headsOf (nm.tailB css) s) (tailsOf (nm.tailB css) s) n = nm.name (headsOf (nm.tailB css) s) (tailsOf (nm.tailB css) s) k) : n = k := by
  obtain ⟨h1, _, h3, _⟩ := lens h
  exact nm.name_inj _ _ h1 (by omega) (apart_of_perm (hperm h) (head_nodup css)) (apart_of_perm (tperm h) (tail_nodup css)) n k e

theorem number_sel {css : Bool} {cs : List Int} {s : List Nat} (h : IsSel (nm.tailB css).size cs s) (n : Nat) (hn : n ≤ 9223372036854775807) (W : World) :
    Calls Tryd.prog 19 #[.agg #[.string ⟨(headsOf (nm.tailB css) s).toArray⟩, .string ⟨(tailsOf (nm.tailB css) s).toArray⟩], .int .i64 (n : Int)] W fun e w' => e = .returned (.string ⟨(nm.name (headsOf (nm.tailB css) s) (tailsOf (nm.tailB css) s) n).toArray⟩) ∧ Below W.heap.size W w' := by
  obtain ⟨h1, h2, h3, h4⟩ := lens h
  exact nm.number_any ⟨(headsOf (nm.tailB css) s).toArray⟩ ⟨(tailsOf (nm.tailB css) s).toArray⟩ h1 h2 h3 h4 n hn W
theorem spec_sel {css : Bool} {cs : List Int} {s : List Nat} (h : IsSel (nm.tailB css).size cs s) (n : Nat) (hn : n ≤ 9223372036854775807) (W : World) :
    Calls Tryd.prog 11 #[.string ⟨(headsOf (nm.tailB css) s).toArray⟩, .string ⟨(tailsOf (nm.tailB css) s).toArray⟩, .int .i64 (n : Int)] W fun e w' => e = .returned (.string ⟨(nm.name (headsOf (nm.tailB css) s) (tailsOf (nm.tailB css) s) n).toArray⟩) ∧ Below W.heap.size W w' := by
  obtain ⟨h1, h2, h3, h4⟩ := lens h
  exact nm.specName_any ⟨(headsOf (nm.tailB css) s).toArray⟩ ⟨(tailsOf (nm.tailB css) s).toArray⟩ h1 h2 h3 h4 n hn W
theorem from_sel {css : Bool} {cs : List Int} {s : List Nat} (h : IsSel (nm.tailB css).size cs s) (n : Nat) (hn : n ≤ 9223372036854775807) (W : World) :
    Calls Tryd.prog 12 #[.string ⟨(nm.name (headsOf (nm.tailB css) s) (tailsOf (nm.tailB css) s) n).toArray⟩, .string (nm.headB css), .string (nm.tailB css)] W fun e w' => e = .returned (.bool true) ∧ W = w' := by
  obtain ⟨h1, h2, h3, h4⟩ := lens h
  obtain ⟨g1, g2, g3, g4⟩ := nm.sizes css
  have hl := nm.name_len (headsOf (nm.tailB css) s) (tailsOf (nm.tailB css) s) h3 n (by omega)
  have hx := nm.getD_mem (headsOf (nm.tailB css) s) (n % (headsOf (nm.tailB css) s).length) (Nat.mod_lt _ h1)
  have ht := nm.tl_mem (tailsOf (nm.tailB css) s) (by omega) (n / (headsOf (nm.tailB css) s).length)
  have hx' := (hperm h).subset hx
  have ht' : ∀ c ∈ nm.tl (tailsOf (nm.tailB css) s) (n / (headsOf (nm.tailB css) s).length), c ∈ (nm.tailB css).data.toList := fun c hc => (tperm h).subset (ht c hc)
  have e : nm.name (headsOf (nm.tailB css) s) (tailsOf (nm.tailB css) s) n = (headsOf (nm.tailB css) s).getD (n % (headsOf (nm.tailB css) s).length) 0 :: nm.tl (tailsOf (nm.tailB css) s) (n / (headsOf (nm.tailB css) s).length) := rfl
  rw [e] at hl ⊢
  rw [List.length_cons] at hl
  exact nm.isFrom_any _ _ _ _ g2 g4 (Nat.le_trans (Nat.le_of_succ_le hl) (by decide)) hx' ht' W

def RetShuf (css : Bool) (L : List (ByteArray × Int)) (n : Nat) (w : World) (e : Ending) (w' : World) : Prop :=
  ∃ s, IsSel (nm.tailB css).size (cnt.all cnt.z64 L) s ∧ e = .returned (.string ⟨(nm.name (headsOf (nm.tailB css) s) (tailsOf (nm.tailB css) s) n).toArray⟩) ∧ Below w.heap.size w w'

set_option maxHeartbeats 400000 in
theorem shuffled_any (css : Bool) (A : Option Addr) (n c : Nat) (L : List (ByteArray × Int)) (hn : n ≤ 140737488355328) (m : Nat) (hm : m ≤ 9223372036854775807) (w : World) (hr : Rd w w.heap.size A n L) (hL : nm.Laid css w) :
    Calls Tryd.prog 10 #[.bool css, .slice A n c, .int .i64 (m : Int)] w (RetShuf css L m w) := by
  have HM := Lib.hid (nm.minifier_any css w hL)
  have HC := Lib.hid fun W (h : Rd W W.heap.size A n L) => cnt.scanned_any A n c L hn W h
  have HS := Lib.hid fun W => shuffle_any (nm.headB css) (nm.tailB css) (tail64 css) (cnt.all cnt.z64 L) ((cnt.all_len _ _).trans cnt.z64_len) W
  have HN := Lib.hid fun s (hs : IsSel (nm.tailB css).size (cnt.all cnt.z64 L) s) W => number_sel hs m hm W
  have HR := Lib.hid hr
  unfold RetShuf
  clear hr hL hn
  generalize nm.tailB css = T at *
  generalize nm.headB css = H at *
  generalize cnt.all cnt.z64 L = cs at *
  go_enter Tryd.func10, Tryd.ntmps10
  go_wp2_with fail
  refine HM.out.mono ?_
  rintro e w1 ⟨rfl, hb1⟩
  go_wp2_with fail
  refine (HC.out _ ((HR.out.below hb1).more hb1.size)).mono ?_
  rintro e w2 ⟨rfl, hb2⟩
  go_wp2_with fail
  refine (HS.out _).mono ?_
  rintro e w3 ⟨s, hs, rfl, hb3⟩
  have HSS := Lib.hid hs
  clear hs
  go_wp2_with fail
  refine (HN.out s HSS.out _).mono ?_
  rintro e w4 ⟨rfl, hb4⟩
  go_wp2_with fail
  go_ret
  have z1 := hb1.size
  have z2 := hb2.size
  have z3 := hb3.size
  exact ⟨s, HSS.out, rfl, ((hb1.trans (hb2.mono z1)).trans (hb3.mono (by omega))).trans (hb4.mono (by omega))⟩

theorem row_form {w : World} {B : Nat} {v : Value} {cs : List Int} (h : w.ownsRow B 21 1 v 64 (ic cs)) :
    ∃ g c, v = .slice (some ⟨g, 0, none⟩) 64 c ∧ B ≤ g ∧ g < w.heap.size ∧ ∀ k, k < 64 → w.cell? ⟨g, k, none⟩ = some (.int .i32 (cs.getD k 0)) := by
  have hl : cs.length = 64 := by have := h.1; rw [cnt.ic_len] at this; omega
  obtain ⟨g, c, rfl, hB, hlt⟩ : ∃ g c, v = .slice (some ⟨g, 0, none⟩) 64 c ∧ B ≤ g ∧ g < w.heap.size := by
    rcases h.2 with ⟨_, h0⟩ | ⟨g, cap, cur, rfl, hB, hh, _⟩
    · cases h0
    · exact ⟨g, cap, rfl, hB, (Array.getElem?_eq_some_iff.1 hh).1⟩
  refine ⟨g, c, rfl, hB, hlt, fun k hk => ?_⟩
  have := h.cells (g := g) rfl k (.int .i32 (cs.getD k 0)) (by simp [ic, List.getElem?_eq_getElem (show k < cs.length by omega)])
  have hadd : (⟨g, 0, none⟩ : Addr).add k = ⟨g, k, none⟩ := by unfold Addr.add; split <;> simp_all
  rw [hadd] at this
  exact this

/-- What the reference sorts: Sorted of the tail and of what is counted. -/
def RetRef (css : Bool) (L : List (ByteArray × Int)) (w : World) (e : Ending) (w' : World) : Prop :=
  ∃ s, IsSel (nm.tailB css).size (cnt.all cnt.z64 L) s ∧ e = .returned (.tuple #[.string ⟨(headsOf (nm.tailB css) s).toArray⟩, .string ⟨(tailsOf (nm.tailB css) s).toArray⟩]) ∧ Below w.heap.size w w'
end Go.Proofs.YtpmihkhmijndaaaDoor.srt
