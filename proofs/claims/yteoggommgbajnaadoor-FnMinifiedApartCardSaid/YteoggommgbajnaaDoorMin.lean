/- What ExportRenamer.NextMinifiedName and impl.Minified compute: the names of the numbers from 0 on. -/
import Derived.Test.YteoggommgbajnaaDoorNameSpec
import Derived.StillTailTactics
namespace Go.Proofs.YteoggommgbajnaaDoor.nm
open Go.ChangeShapes Go.WideShapes Go.ChangeAt Go.RowKit

def nameS (c : Nat) : ByteArray := ⟨(name (headL false) (tailL false) c).toArray⟩
def Next (R : Nat) (c : Nat) (w : World) (e : Ending) (w' : World) : Prop := ∃ w1, e = .returned (.string (nameS c)) ∧ Below w.heap.size w w1 ∧ w' = w1.setCell ⟨R, 1, none⟩ (.int .i64 ((c + 1 : Nat) : Int))
set_option maxHeartbeats 1000000 in
theorem next_any (R : Nat) (c : Nat) (hc : c < 9223372036854775807) (u : Value) (w : World) (hR : w.heap[R]? = some (.cells #[u, .int .i64 (c : Int)] 41 (0, 0))) (hL : Laid false w) :
    Calls Tryd.prog 18 #[.pointer (some ⟨R, 0, none⟩)] w (Next R c w) := by
  obtain ⟨h1, h2, h3, h4⟩ := sizes false
  have HN := Lib.hid (fun W => number_any (headB false) (tailB false) h1 h2 h3 h4 c (by omega) W)
  change Hid (∀ W, Calls Tryd.prog 16 #[.agg #[.string (headB false), .string (tailB false)], .int .i64 (c : Int)] W fun e w' => e = .returned (.string (nameS c)) ∧ Below W.heap.size W w') at HN
  have hlt : R < w.heap.size := (Array.getElem?_eq_some_iff.1 hR).1
  have hg := hL.lt
  obtain ⟨g0, g1⟩ := hL
  have hc1 : w.cell? ⟨R, 1, none⟩ = some (.int .i64 (c : Int)) := by rw [Lib.cell_of_heap hR]; rfl
  have HR := Lib.hid hR
  clear hR h1 h2 h3 h4
  generalize headB false = H at *
  generalize tailB false = T at *
  simp only [gOf] at g0 g1 hg
  go_enter Tryd.func18, Tryd.ntmps18
  go_wp2_with fail
  go_still_tail 5, (by kernel_rfl)
  change wpList _ _ _ _ _ w.drew
  go_wp2_with fail
  refine (HN.out _).mono ?_
  rintro e w1 ⟨rfl, hb⟩
  have hR1 : w1.heap[R]? = some (.cells #[u, .int .i64 (c : Int)] 41 (0, 0)) := by
    rw [hb.block R (show R < w.drew.heap.size from hlt)]
    exact HR.out
  have d1 : w1.cell? ⟨R, 1, none⟩ = some (.int .i64 (c : Int)) := by rw [Lib.cell_of_heap hR1]; rfl
  have f1 : w1.frozen? ⟨R, 1, none⟩ = false := Lib.frozen_of_heap hR1 1
  have hb1 : Below w.heap.size w w1 := ((Below.refl w.heap.size w).drew).trans hb
  clear HN hc1 g0 g1 hb hR1
  go_wp2_with fail
  go_ret
  exact ⟨w1, rfl, hb1, by rw [show (((c + 1 : Nat)) : Int) = (c : Int) + 1 by omega]⟩

theorem own_below {W W' : World} {B : Nat} {e : TypeId} {size : Nat} {v : Value} {n : Nat} {xs : List Value} (h : W.ownsRow B e size v n xs) (hb : Below W.heap.size W W') : W'.ownsRow B e size v n xs := by
  refine ⟨h.1, ?_⟩
  rcases h.2 with h | ⟨g, cap, cur, h1, h2, h3, h4⟩
  · exact Or.inl h
  · exact Or.inr ⟨g, cap, cur, h1, h2, (hb.block g (Array.getElem?_eq_some_iff.1 h3).1).trans h3, h4⟩
theorem own_set {W : World} {B : Nat} {e : TypeId} {size : Nat} {v : Value} {n : Nat} {xs : List Value} (h : W.ownsRow B e size v n xs) {R : Nat} {cs : Array Value} {t : TypeId} (hR : W.heap[R]? = some (.cells cs t (0, 0))) (ht : t ≠ e) (k : Nat) (u : Value) :
    (W.setCell ⟨R, k, none⟩ u).ownsRow B e size v n xs := by
  refine ⟨h.1, ?_⟩
  rcases h.2 with h | ⟨g, cap, cur, h1, h2, h3, h4⟩
  · exact Or.inl h
  · refine Or.inr ⟨g, cap, cur, h1, h2, ?_, h4⟩
    have hne : g ≠ R := by rintro rfl; rw [hR] at h3; cases h3; exact ht rfl
    exact (Below.heap_setCell W ⟨R, k, none⟩ u g hne).trans h3
theorem set_two {W : World} {R : Nat} {a b : Value} {t : TypeId} (h : W.heap[R]? = some (.cells #[a, b] t (0, 0))) (u : Value) : (W.setCell ⟨R, 1, none⟩ u).heap[R]? = some (.cells #[a, u] t (0, 0)) := by
  simp [World.setCell, Array.getElem?_modify, h]

def strsOf (k : Nat) : List Value := (List.range k).map fun c => .string (nameS c)
theorem strs_len (k : Nat) : (strsOf k).length = k := by simp [strsOf]
theorem strs_succ (k : Nat) : strsOf (k + 1) = strsOf k ++ [.string (nameS k)] := by simp [strsOf, List.range_succ]
def RelQ (m : Nat) (w : World) (v i : Value) (wr : World) : Prop :=
  ∃ k : Nat, k ≤ m ∧ i = .int .i64 (k : Int) ∧ wr.ownsRow w.heap.size 9 1 v k (strsOf k) ∧ wr.heap[w.heap.size]? = some (.cells #[.map none, .int .i64 (k : Int)] 41 (0, 0)) ∧ Below w.heap.size w wr
def RetStrs (m : Nat) (w : World) (e : Ending) (w' : World) : Prop := ∃ v, e = .returned v ∧ w'.ownsRow w.heap.size 9 1 v m (strsOf m) ∧ Below w.heap.size w w'
theorem info9 : (Tryd.prog.info? 9).map (fun i => (i.zero, i.size, i.bytes)) = some (some (.string ⟨#[]⟩), 1, 16) := by kernel_rfl
theorem str_cell (w : World) (c : Value) : ∀ j u, [c][j]? = some u → (w.alloc (.cells #[c] 9)).cell? ((⟨w.heap.size, 0, none⟩ : Addr).add j) = some u := by
  intro j u hj
  match j, hj with
  | 0, hj => simp at hj; subst hj; simp [Addr.add]

set_option maxHeartbeats 1000000 in
theorem minified_any (m : Nat) (hm : m ≤ 5000) (w : World) (hL : Laid false w) :
    Calls Tryd.prog 14 #[.int .i64 (m : Int)] w (RetStrs m w) := by
  obtain ⟨i0, hi, hz0, hz1, hz2⟩ := info_parts info9
  have HL := Lib.hid hL
  have hg := hL.lt
  clear hL
  go_enter Tryd.func14, Tryd.ntmps14
  go_wp2
  go_loopw [4, 8] (fun v i wr => RelQ m w v i wr) (fun _ i _ => m - (intOf i).toNat)
  case atStart => exact ⟨0, Nat.zero_le _, rfl, ⟨rfl, Or.inl ⟨rfl, rfl⟩⟩, heap_alloc_new w _, (Below.refl _ _).alloc (Nat.le_refl _) _⟩
  case round =>
    obtain ⟨k, hk, rfl, hown, hR, hbw⟩ := hrel
    have hsz := hbw.size
    by_cases hlt : k < m
    · have HN := Lib.hid (next_any w.heap.size k (by omega) (.map none) wr hR (HL.out.below hbw (Nat.le_refl _)))
      have HO := Lib.hid hown
      have HR := Lib.hid hR
      have hzr : w.heap.size < wr.heap.size := (Array.getElem?_eq_some_iff.1 hR).1
      clear hown hR
      go_wp2_with fail
      refine HN.out.mono ?_
      rintro e w2 ⟨w1, rfl, hb1, rfl⟩
      have hR1 : w1.heap[w.heap.size]? = some (.cells #[.map none, .int .i64 (k : Int)] 41 (0, 0)) := by
        rw [hb1.block _ hzr]; exact HR.out
      have hown2 := own_set (own_below HO.out hb1) hR1 (by decide) 1 (.int .i64 ((k + 1 : Nat) : Int))
      have hR2 := set_two hR1 (.int .i64 ((k + 1 : Nat) : Int))
      have hbw2 : Below w.heap.size w (w1.setCell ⟨w.heap.size, 1, none⟩ (.int .i64 ((k + 1 : Nat) : Int))) := (hbw.trans (hb1.mono hsz)).setCell (p := ⟨w.heap.size, 1, none⟩) (Nat.le_refl _) _
      have hsz2 := hbw2.size
      clear HN HO HR hR1 hb1 hbw
      generalize w1.setCell ⟨w.heap.size, 1, none⟩ (.int .i64 ((k + 1 : Nat) : Int)) = W at *
      have HS := Lib.hid (strs_succ k)
      go_wp2_with (at_builtin; refine wpList_append_own _ rfl (.tmp 10) (.tmp 13) 28 rfl w.heap.size 9 i0 (.string ⟨#[]⟩) 1 16 Tryd.underlying28 hi hz0 hz1 hz2 rfl (by decide) _ k (strsOf k) rfl (hown2.alloc _) ⟨W.heap.size, 0, none⟩ 1 1 [.string (nameS k)] rfl rfl (str_cell _ _) (by intro u hu; simp at hu; subst hu; rfl) (by unfold maxLen; omega) (by omega) (by simp; omega) ?_; intro v3 w3 hown3 hgrow3 _)
      have hbw3 : Below w.heap.size w w3 := (hbw2.alloc hsz2 _).grown hgrow3 (by simp; omega) fun j e => (hown2.lt j e).1
      have hR3 : w3.heap[w.heap.size]? = some (.cells #[.map none, .int .i64 ((k + 1 : Nat) : Int)] 41 (0, 0)) := by
        have hlt2 : w.heap.size < W.heap.size := (Array.getElem?_eq_some_iff.1 hR2).1
        rw [hgrow3.block _ (by simp; omega) (fun e => Lib.ownBlock_ne hown2 hR2 (by decide) e.symm), Below.heap_alloc W _ _ hlt2]
        exact hR2
      go_roundw
      case rel => exact ⟨k + 1, by omega, by go_num, by rw [HS.out]; exact hown3, hR3, hbw3⟩
      case measure => simp [intOf]; omega
    · obtain rfl : k = m := by omega
      go_wp2
      go_ret
      exact ⟨_, rfl, hown, hbw⟩
end Go.Proofs.YteoggommgbajnaaDoor.nm
