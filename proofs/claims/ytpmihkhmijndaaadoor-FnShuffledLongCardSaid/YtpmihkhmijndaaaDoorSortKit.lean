/- sort.Sort over a row whose elements may take several cells: the words, and insertionSort, reverseRange, siftDown, heapSort (walks turned from the shelf's texts for one cell). -/
import Derived.Test.YtpmihkhmijndaaaDoorRows
import Derived.Shelf.GgSortMore.Stable
import Derived.Sort.WalkB12
import Derived.Sort.WalkB2
import Derived.Sort.WalkB3
import Derived.WalkKit
import Derived.ProofKit
import Derived.OpenShut
import Derived.Lib.Hide
import Derived.Deep.LoopGhost
namespace Go.Proofs.YtpmihkhmijndaaaDoor.srt
open Go.Shelf Go.RowKit Go.Lib Go.Sort

/-- The row that is sorted: block blk holds N elements; how they lie is J's. -/
structure Row {α : Type} [Inhabited α] (blk N : Nat) (rv : Value) (lt : α → α → Bool) (J : World → Array α → Prop) : Prop where
  less : ∀ (W : World) (d : Array α) (i j : Nat), J W d → d.size = N → i < N → j < N → Calls Tryd.prog 61 #[rv, .int .i64 (i : Int), .int .i64 (j : Int)] W fun e w' => e = .returned (.bool (lt d[i]! d[j]!)) ∧ RowKit.Below W.heap.size W w'
  swap : ∀ (W : World) (d : Array α) (i j : Nat), J W d → d.size = N → i < N → j < N → Calls Tryd.prog 62 #[rv, .int .i64 (i : Int), .int .i64 (j : Int)] W fun e w' => e = .returned (.tuple #[]) ∧ W.grownBy w' (some blk) ∧ J w' (swp d i j)
  keep : ∀ (W W' : World) (d : Array α), J W d → W'.heap[blk]? = W.heap[blk]? → J W' d
  lt_size : ∀ (W : World) (d : Array α), J W d → blk < W.heap.size
  small : N < 4611686018427387904
  len : ∀ (W : World), Calls Tryd.prog 60 #[rv] W fun e w' => e = .returned (.int .i64 (N : Int)) ∧ W = w'

theorem grown_refl (w : World) (row : Option Nat) : w.grownBy w row := ⟨rfl, rfl, rfl, Nat.le_refl _, fun _ _ _ => rfl⟩
theorem grown_trans {a b c : World} {row : Option Nat} (h : a.grownBy b row) (k : b.grownBy c row) : a.grownBy c row :=
  ⟨k.os.trans h.os, k.tape.trans h.tape, k.output.trans h.output, Nat.le_trans h.size k.size, fun i hi hr => (k.block i (Nat.lt_of_lt_of_le hi h.size) hr).trans (h.block i hi hr)⟩
theorem grown_below {a b : World} {row : Option Nat} (h : RowKit.Below a.heap.size a b) : a.grownBy b row := ⟨h.os, h.tape, h.output, h.size, fun i hi _ => h.block i hi⟩

/-- from w on: only the row has turned, and it holds d now. -/
def SW {α : Type} (blk : Nat) (J : World → Array α → Prop) (w : World) (d : Array α) (W : World) : Prop := w.grownBy W (some blk) ∧ J W d
theorem SW.start {α : Type} {blk : Nat} {J : World → Array α → Prop} {w : World} {d : Array α} (h : J w d) : SW blk J w d w := ⟨grown_refl _ _, h⟩
theorem SW.trans {α : Type} {blk : Nat} {J : World → Array α → Prop} {w W W' : World} {d d' : Array α} (h : SW blk J w d W) (k : SW blk J W d' W') : SW blk J w d' W' := ⟨grown_trans h.1 k.1, k.2⟩
section
variable {α : Type} [Inhabited α] {blk N : Nat} {rv : Value} {lt : α → α → Bool} {J : World → Array α → Prop}

theorem SW.same (R : Row blk N rv lt J) {w W W' : World} {d : Array α} (h : SW blk J w d W) (k : RowKit.Below W.heap.size W W') : SW blk J w d W' :=
  ⟨grown_trans h.1 (grown_below k), R.keep W W' d h.2 (k.block blk (R.lt_size W d h.2))⟩

/-- 'Less' in the form in which the walks meet it. -/
theorem Row.lessAt (R : Row blk N rv lt J) {w : World} {X : Array α} (i j : Nat) (v : Bool) (hX : X.size = N) (hi : i < N) (hj : j < N) (hv : lt X[i]! X[j]! = v) :
    ∀ (ii jj : Int) (W : World), ii = (i : Int) → jj = (j : Int) → Aside (SW blk J w X W) → Calls Tryd.prog 61 #[rv, .int .i64 ii, .int .i64 jj] W fun e w' => e = .returned (.bool v) ∧ Aside (SW blk J w X w') := by
  rintro ii jj W rfl rfl S
  refine (R.less W X i j S.out.2 hX hi hj).mono ?_
  rintro e w' ⟨rfl, hb⟩
  exact ⟨by rw [hv], SW.same R S.out hb⟩
theorem Row.swapAt (R : Row blk N rv lt J) {w : World} {X : Array α} (i j : Nat) (hX : X.size = N) (hi : i < N) (hj : j < N) :
    ∀ (ii jj : Int) (W : World), ii = (i : Int) → jj = (j : Int) → Aside (SW blk J w X W) → Calls Tryd.prog 62 #[rv, .int .i64 ii, .int .i64 jj] W fun e w' => e = .returned (.tuple #[]) ∧ Aside (SW blk J w (swp X i j) w') := by
  rintro ii jj W rfl rfl S
  refine (R.swap W X i j S.out.2 hX hi hj).mono ?_
  rintro e w' ⟨rfl, hg, hJ⟩
  exact ⟨rfl, grown_trans S.out.1 hg, hJ⟩

set_option maxHeartbeats 2000000 in
set_option maxRecDepth 100000 in
theorem insertionSort_any (R : Row blk N rv lt J) (a b : Nat) (d : Array α) (w : World) (hJ : J w d) (hd : d.size = N) (hab : a ≤ b) (hb : b ≤ N) :
    Calls Tryd.prog 29 #[.iface 51 rv, .int .i64 (a : Int), .int .i64 (b : Int)] w fun e w' => e = .returned (.tuple #[]) ∧ Aside (SW blk J w (Go.Sort.insertionSort lt d a b) w') := by
  have hsz := R.small
  have S0 : Aside (SW blk J w d w) := SW.start hJ
  have HD := Lib.hid hd
  clear hJ hd
  go_enter Tryd.func29, Tryd.ntmps29
  go_wp2
  go_loopw [6] (fun vi wr => ∃ (i : Nat) (dk : Array α), vi = .int .i64 (i : Int) ∧ a < i ∧ i ≤ b + 1 ∧ Hid (dk.size = N) ∧ Aside (SW blk J w dk wr) ∧
      Hid (insOuter lt a b i dk = insOuter lt a b (a + 1) d)) (fun vi _ => b + 1 - (RowKit.intOf vi).toNat)
  case atStart => exact ⟨a + 1, d, by go_num, by omega, by omega, HD, S0, rfl⟩
  case round =>
    obtain ⟨i, dk, rfl, hai, hib, hsk, S, HO⟩ := hrel
    by_cases hlt : i < b
    · go_wp2
      go_loopw [7] (fun vj wr2 => ∃ (j : Nat) (dj : Array α), vj = .int .i64 (j : Int) ∧ a ≤ j ∧ j ≤ i ∧ Hid (dj.size = N) ∧ Aside (SW blk J w dj wr2) ∧
          Hid (insInner lt a j dj = insInner lt a i dk)) (fun vj _ => (RowKit.intOf vj).toNat)
      case atStart => exact ⟨i, dk, rfl, by omega, Nat.le_refl _, hsk, S, rfl⟩
      case round =>
        clear S
        obtain ⟨j, dj, rfl, haj, hji, hsj, S, HI⟩ := hrel
        have OUT : (j ≤ a ∨ lt dj[j]! dj[j - 1]! = false) → Hid (insOuter lt a b (i + 1) dj = insOuter lt a b (a + 1) d) := fun hs => by
          show _ = _
          rw [← HO.out, insOuter_go _ _ _ _ _ hlt, ← HI.out, insInner_stop _ _ _ _ hs]
        have OUTH := Lib.hid OUT
        clear OUT
        by_cases hja : a < j
        · cases hlv : lt dj[j]! dj[j - 1]! with
          | true =>
            have HL := Lib.hid (R.lessAt (w := w) j (j - 1) true hsj.out (by omega) (by omega) hlv)
            have HS := Lib.hid (R.swapAt (w := w) j (j - 1) hsj.out (by omega) (by omega))
            go_wp2_with fail
            refine (HL.out _ _ _ (by omega) (by omega) S).mono ?_
            rintro e w1 ⟨rfl, S1⟩
            go_wp2_with fail
            refine (HS.out _ _ _ (by omega) (by omega) S1).mono ?_
            rintro e w2 ⟨rfl, S2⟩
            go_wp2_with fail
            go_roundw
            case rel =>
              have hrr : ∃ (j' : Nat) (dj' : Array α), Value.int .i64 ((j : Int) - 1) = .int .i64 (j' : Int) ∧ a ≤ j' ∧ j' ≤ i ∧ Hid (dj'.size = N) ∧ Aside (SW blk J w dj' w2) ∧ Hid (insInner lt a j' dj' = insInner lt a i dk) :=
                ⟨j - 1, swp dj j (j - 1), by congr 1; omega, by omega, by omega, (show Hid _ from (size_swp _ _ _).trans hsj.out), S2, (show Hid _ from by rw [← HI.out, insInner_go lt a j dj hja hlv]; exact rfl)⟩
              first | exact hrr | ((repeat apply Exists.intro); exact ⟨hrr, rfl⟩)
            case measure => simp [RowKit.intOf]; omega
          | false =>
            have HL := Lib.hid (R.lessAt (w := w) j (j - 1) false hsj.out (by omega) (by omega) hlv)
            go_wp2_with fail
            refine (HL.out _ _ _ (by omega) (by omega) S).mono ?_
            rintro e w1 ⟨rfl, S1⟩
            go_wp2_with fail
            go_roundw
            case rel => exact ⟨i + 1, dj, by go_num, by omega, by omega, hsj, S1, OUTH.out (Or.inr hlv)⟩
            case measure => simp [RowKit.intOf]; omega
        · go_wp2
          go_roundw
          case rel => exact ⟨i + 1, dj, by go_num, by omega, by omega, hsj, S, OUTH.out (Or.inl (by omega))⟩
          case measure => simp [RowKit.intOf]; omega
    · go_wp2
      go_end0
      refine ⟨rfl, ?_⟩
      have e : Go.Sort.insertionSort lt d a b = dk := by unfold Go.Sort.insertionSort; rw [← HO.out, insOuter_stop _ _ _ _ _ hlt]
      rw [e]
      exact S
end
end Go.Proofs.YtpmihkhmijndaaaDoor.srt
