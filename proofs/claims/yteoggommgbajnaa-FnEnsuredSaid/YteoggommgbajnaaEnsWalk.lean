/- What EnsureValidIdentifier computes: ens of the string's bytes. -/
import Derived.Test.YteoggommgbajnaaRows
import Derived.Test.YteoggommgbajnaaEnsPlain
import Derived.WalkKit
import Derived.ProofKit
import Derived.OpenShut
import Derived.Lib.Hide
import Derived.Lib.OthersKept
import Derived.Laws.IdiomStrings
import Derived.Maps.AppendAt
namespace Go.Proofs.Yteoggommgbajnaa.ens
open Go.ChangeShapes Go.WideShapes Go.ChangeAt Go.RowKit

theorem info5 : (Try.prog.info? 5).map (fun i => (i.zero, i.size, i.bytes)) = some (some (.int .u8 0), 1, 1) := by kernel_rfl
def bc (l : List UInt8) : List Value := l.map fun b => .int .u8 (b.toNat : Int)
theorem bc_len (l : List UInt8) : (bc l).length = l.length := by simp [bc]
theorem bc_snoc (l : List UInt8) (c : UInt8) : bc (l ++ [c]) = bc l ++ [.int .u8 (c.toNat : Int)] := by simp [bc]

theorem own_iterAt {w : World} {B : Nat} {e : TypeId} {size : Nat} {v : Value} {n : Nat} {xs : List Value} (h : w.ownsRow B e size v n xs) {k : Nat} {s : ByteArray} {pos : Nat} (hk : w.heap[k]? = some (.stringIter s pos)) (p' : Nat) :
    (w.iterAt k s p').ownsRow B e size v n xs := by
  refine ⟨h.1, ?_⟩
  rcases h.2 with h | ⟨g, cap, cur, h1, h2, h3, h4⟩
  · exact Or.inl h
  · refine Or.inr ⟨g, cap, cur, h1, h2, ?_, h4⟩
    have hne : g ≠ k := by rintro rfl; rw [hk] at h3; cases h3
    rw [Lib.iterAt_other w k g s p' hne]
    exact h3

theorem iter_grown {w w' : World} {B : Nat} {e : TypeId} {size : Nat} {v : Value} {n : Nat} {xs : List Value} (h : w.ownsRow B e size v n xs) {k : Nat} {s : ByteArray} {pos : Nat} (hk : w.heap[k]? = some (.stringIter s pos))
    (hg : w.grownBy w' v.ownBlock) : w'.heap[k]? = some (.stringIter s pos) := by
  rw [hg.block k (Array.getElem?_eq_some_iff.1 hk).1 ?_]
  · exact hk
  · rcases h.2 with ⟨rfl, _⟩ | ⟨g, cap, cur, rfl, h2, h3, h4⟩
    · simp [Value.ownBlock]
    · simp only [Value.ownBlock]
      intro e
      cases e
      rw [hk] at h3
      cases h3

theorem own_len {w : World} {B : Nat} {e : TypeId} {v : Value} {n : Nat} {xs : List Value} (h : w.ownsRow B e 1 v n xs) : ∃ a c, v = .slice a n c := by
  rcases h.2 with ⟨rfl, rfl⟩ | ⟨g, cap, cur, rfl, _⟩
  · exact ⟨_, _, rfl⟩
  · exact ⟨_, _, rfl⟩

theorem conv {w : World} {B : Nat} {v : Value} {out : List UInt8} (h : w.ownsRow B 5 1 v out.length (bc out)) (hne : out ≠ []) :
    (convert 35 9 v).run Try.prog w = .ok (.string ⟨out.toArray⟩) w := by
  rcases h.2 with ⟨rfl, h0⟩ | ⟨g, cap, cur, rfl, h2, h3, h4⟩
  · exact absurd (List.length_eq_zero_iff.1 h0) hne
  · refine run_convert_bytes_back w 35 9 5 ⟨g, 0, none⟩ cap out Try.underlying35 Try.underlying5 Try.underlying9 ?_
    intro j hj
    exact h.cells (g := g) rfl j _ (by simp [bc, List.getElem?_eq_getElem hj])

/-- Behind an append of one byte: the iterator stands, what lay before stands. -/
theorem pushed {w W w1 : World} {v : Value} {n : Nat} {xs : List Value} {k p : Nat} {s : ByteArray} {o : Obj} (hown : W.ownsRow w.heap.size 5 1 v n xs) (hit : W.heap[k]? = some (.stringIter s p)) (hbw : Below w.heap.size w W)
    (hg : (W.alloc o).grownBy w1 v.ownBlock) : w1.heap[k]? = some (.stringIter s p) ∧ Below w.heap.size w w1 := by
  have hk : k < W.heap.size := (Array.getElem?_eq_some_iff.1 hit).1
  have hit' : (W.alloc o).heap[k]? = some (.stringIter s p) := by rw [Below.heap_alloc W o k hk]; exact hit
  have hB : w.heap.size ≤ W.heap.size := hbw.size
  exact ⟨iter_grown (hown.alloc o) hit' hg, (hbw.alloc hB o).grown hg (by simp; omega) fun k e => ((hown.alloc o).lt k e).1⟩

/-- The state of the loop: the row, the gap, the iterator. -/
def Rel (s : ByteArray) (w : World) (v g : Value) (wr : World) : Prop := ∃ (pos : Nat) (out : List UInt8) (gap : Bool), pos ≤ s.size ∧ run (s.data.toList.take pos) = (out, gap) ∧
  wr.ownsRow w.heap.size 5 1 v out.length (bc out) ∧ g = .bool gap ∧ wr.heap[w.heap.size + 1]? = some (.stringIter s pos) ∧ Below w.heap.size w wr

theorem rel_one {w W : World} {s : ByteArray} {v : Value} {out : List UInt8} {gap : Bool} {c pos' : Nat} (hn2 : pos' ≤ s.size) (HR : run (s.data.toList.take pos') = ((if gap = true then out ++ [95] else out) ++ [UInt8.ofNat c], false)) (hc : ((UInt8.ofNat c).toNat : Int) = (c : Int))
    {n : Nat} {pre : List Value} (hpre : pre = bc (if gap = true then out ++ [95] else out)) (hn : n = (if gap = true then out ++ [95] else out).length)
    (hown : W.ownsRow w.heap.size 5 1 v (n + 1) (pre ++ [.int .u8 (c : Int)])) (hit : W.heap[w.heap.size + 1]? = some (.stringIter s pos')) (hbw : Below w.heap.size w W) : Rel s w v (.bool false) W := by
  subst hpre; subst hn
  refine ⟨pos', _, false, hn2, HR, ?_, rfl, hit, hbw⟩
  rw [bc_snoc, hc, List.length_append]
  exact hown

set_option maxHeartbeats 1000000 in
theorem ensure_any (s : ByteArray) (hs : s.size < 140737488355328) (w : World) :
    Calls Try.prog 17 #[.string s] w fun e w' => e = .returned (.string ⟨(ens s.data.toList).toArray⟩) ∧ Below w.heap.size w w' := by
  obtain ⟨i0, hi, hz0, hz1, hz2⟩ := info_parts info5
  go_enter Try.func17, Try.ntmps17
  go_wp2
  go_loopw [3, 4] (fun v g wr => Rel s w v g wr) (fun _ _ wr => s.size - wr.iterPos (w.heap.size + 1))
  case atStart =>
    refine ⟨0, [], false, Nat.zero_le _, by simp [run], ?_, rfl, ?_, ((Below.refl _ w).alloc (Nat.le_refl _) _).alloc (by simp) _⟩
    · exact (World.ownsRow_made w #[] 0 (Nat.le_refl _) (Nat.zero_le _) rfl).alloc _
    · have := World.iter_heap (w.alloc (.cells #[] 5)) s 0
      simpa using this
  case round =>
    obtain ⟨pos, out, gap, hpos, hrun, hown, rfl, hit, hbw⟩ := hrel
    obtain ⟨a0, c0, rfl⟩ := own_len hown
    by_cases hp : pos < s.size
    · have hnx : ∀ ty, (Instr.next (.pointer (some ⟨w.heap.size + 1, 0, none⟩)) true ty).run Try.prog wr = _ := fun ty => Lib.run_next_any_at wr (w.heap.size + 1) s pos ty hit hp
      obtain ⟨hn1, hn2, hT, hF⟩ := next_any s pos hp out gap hrun
      have hgap := run_gap (s.data.toList.take pos)
      rw [hrun] at hgap
      have hlen := run_len (s.data.toList.take pos)
      rw [hrun] at hlen
      have hlen2 : out.length + 2 ≤ 140737488355328 := by
        have : (s.data.toList.take pos).length ≤ pos := List.length_take_le _ _
        simp only at hlen
        split at hlen <;> omega
      have hown2 := own_iterAt hown hit (pos + (Utf8.decode s pos).2)
      have hit2 := Lib.iterAt_heap wr (w.heap.size + 1) s pos (pos + (Utf8.decode s pos).2) hit
      have hbw2 := Lib.below_iterAt hbw (k := w.heap.size + 1) (by omega) s (pos + (Utf8.decode s pos).2)
      have hm : s.size - (pos + (Utf8.decode s pos).2) < s.size - wr.iterPos (w.heap.size + 1) := by simp only [World.iterPos, hit]; omega
      clear hown hit hbw hrun hlen
      generalize (Utf8.decode s pos).1 = c at *
      generalize pos + (Utf8.decode s pos).2 = pos' at *
      generalize wr.iterAt (w.heap.size + 1) s pos' = W at *
      cases ht : takes out c with
      | true =>
        obtain ⟨hc128, hr'⟩ := hT ht
        have hcs := (takes_iff out c).1 ht
        have HR := Lib.hid hr'
        have hW1 : w.heap.size + 1 < W.heap.size := (Array.getElem?_eq_some_iff.1 hit2).1
        have hu : ((UInt8.ofNat c).toNat : Int) = (c : Int) := by rw [UInt8.toNat_ofNat']; omega
        have HU := Lib.hid hu
        clear hT hF ht hr' hgap hu
        cases gap with
        | true =>
          rcases hcs with h | h | h
          all_goals
            go_wp2_with (first
              | (at_builtin; refine wpList_append_own _ rfl (.tmp 41) (.tmp 42) 35 rfl w.heap.size 5 i0 (.int .u8 0) 1 1 Try.underlying35 hi hz0 hz1 hz2 rfl (by decide) (.slice a0 out.length c0) out.length (bc out) rfl (hown2.alloc _) ⟨W.heap.size, 0, none⟩ 1 1 [.int .u8 95] rfl rfl (cell_one_new _ _ _) (by intro u hu; simp at hu; subst hu; rfl) (by unfold maxLen; omega) (by omega) (by simp; omega) ?_; intro v1 w1 hown1 hgrow1 _; have hs1 := hgrow1.size; simp at hs1)
              | (at_builtin; refine wpList_append_own _ rfl (.tmp 44) (.tmp 47) 35 rfl w.heap.size 5 i0 (.int .u8 0) 1 1 Try.underlying35 hi hz0 hz1 hz2 rfl (by decide) v1 (out.length + 1) (bc out ++ [.int .u8 95]) rfl (hown1.alloc _) ⟨w1.heap.size, 0, none⟩ 1 1 [.int .u8 (c : Int)] rfl rfl (cell_one_new _ _ _) (by intro u hu; simp at hu; subst hu; rfl) (by unfold maxLen; omega) (by omega) (by simp; omega) ?_; intro v2 w2 hown3 hgrow2 _))
            obtain ⟨hit3, hbw3⟩ := pushed hown2 hit2 hbw2 hgrow1
            obtain ⟨hit4, hbw4⟩ := pushed hown1 hit3 hbw3 hgrow2
            clear hgrow1 hgrow2 hown1 hown2
            go_roundw
            case rel => exact rel_one hn2 HR.out HU.out (by simp [bc]) (by simp) hown3 hit4 hbw4
            case measure => simp only [World.iterPos, hit4]; exact hm
        | false =>
          rcases hcs with h | h | h
          all_goals
            go_wp2_with (first
              | (at_builtin; refine wpList_append_own _ rfl (.tmp 44) (.tmp 47) 35 rfl w.heap.size 5 i0 (.int .u8 0) 1 1 Try.underlying35 hi hz0 hz1 hz2 rfl (by decide) (.slice a0 out.length c0) out.length (bc out) rfl (hown2.alloc _) ⟨W.heap.size, 0, none⟩ 1 1 [.int .u8 (c : Int)] rfl rfl (cell_one_new _ _ _) (by intro u hu; simp at hu; subst hu; rfl) (by unfold maxLen; omega) (by omega) (by simp; omega) ?_; intro v2 w2 hown3 hgrow2 _))
            obtain ⟨hit4, hbw4⟩ := pushed hown2 hit2 hbw2 hgrow2
            clear hgrow2 hown2
            go_roundw
            case rel => exact rel_one hn2 HR.out HU.out (by simp) (by simp) hown3 hit4 hbw4
            case measure => simp only [World.iterPos, hit4]; exact hm
      | false =>
        have hr' := hF ht
        have hno : ¬ ((97 ≤ c ∧ c ≤ 122) ∨ (65 ≤ c ∧ c ≤ 90) ∨ (48 ≤ c ∧ c ≤ 57 ∧ 0 < out.length)) := by rw [← takes_iff]; simp [ht]
        have hcs : 122 < c ∨ (90 < c ∧ c < 97) ∨ (57 < c ∧ c < 65) ∨ c < 48 ∨ (48 ≤ c ∧ c ≤ 57 ∧ out.length = 0) := by omega
        have HR := Lib.hid hr'
        clear hT hF ht hno hr'
        rcases out with _ | ⟨x, xs⟩
        · have hg0 : gap = false := by
            cases gap with
            | false => rfl
            | true => exact absurd rfl (hgap rfl)
          subst hg0
          clear hgap
          rcases hcs with h | h | h | h | h
          all_goals
            go_wp2
            go_roundw
            case rel => exact ⟨pos', [], false, hn2, HR.out, hown2, rfl, hit2, hbw2⟩
            case measure => simp only [World.iterPos, hit2]; exact hm
        · clear hgap
          simp only [List.length_cons] at hown2 hlen2 hcs
          rcases hcs with h | h | h | h | h
          all_goals first | (exfalso; omega) | skip
          all_goals
            go_wp2
            go_roundw
            case rel => exact ⟨pos', x :: xs, true, hn2, HR.out, hown2, rfl, hit2, hbw2⟩
            case measure => simp only [World.iterPos, hit2]; exact hm
    · have hnx : ∀ ty, (Instr.next (.pointer (some ⟨w.heap.size + 1, 0, none⟩)) true ty).run Try.prog wr = _ := fun ty => Lib.run_next_end_at wr (w.heap.size + 1) s pos ty hit hp
      obtain rfl : pos = s.size := by omega
      have hall : s.data.toList.take s.size = s.data.toList := List.take_of_length_le (by rw [len_eq]; exact Nat.le_refl _)
      rw [hall] at hrun
      have HE := Lib.hid (show ens s.data.toList = if out.isEmpty = true then [95] else out by unfold ens; rw [hrun])
      clear hrun hall
      rcases out with _ | ⟨x, xs⟩
      · go_wp2
        go_ret
        exact ⟨by rw [HE.out]; rfl, hbw⟩
      · have hcv := conv hown (by simp)
        simp only [List.length_cons] at hcv
        go_wp2
        go_ret
        exact ⟨by rw [HE.out]; rfl, hbw⟩
end Go.Proofs.Yteoggommgbajnaa.ens
