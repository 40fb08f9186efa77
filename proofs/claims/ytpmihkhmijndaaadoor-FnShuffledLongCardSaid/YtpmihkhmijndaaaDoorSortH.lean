/- The row of charAndCount: how it lies; Len, Less and Swap. -/
import Derived.Test.YtpmihkhmijndaaaDoorSortKit
import Derived.RegionTactic
import Derived.BigRegion
import Derived.ChangeAlike
import Derived.Lib.Builder
namespace Go.Proofs.YtpmihkhmijndaaaDoor.srt
open Go.ChangeShapes Go.WideShapes Go.ChangeAt Go.RowKit

structure Ent where
  ch : ByteArray
  cnt : Int
  idx : Nat
instance : Inhabited Ent := ⟨⟨⟨#[]⟩, 0, 0⟩⟩
def Ent.cells (x : Ent) : List Value := [.string x.ch, .int .i32 x.cnt, .int .u8 (x.idx : Int)]
def lt (x y : Ent) : Bool := decide (y.cnt < x.cnt) || (x.cnt == y.cnt && decide ((x.idx : Int) < (y.idx : Int)))
def flatL (l : List Ent) : List Value := l.flatMap Ent.cells
def JE (blk : Nat) (W : World) (d : Array Ent) : Prop := W.heap[blk]? = some (.cells (flatL d.toList).toArray 53 (0, 0))

theorem flat_len (l : List Ent) : (flatL l).length = l.length * 3 := by
  induction l with
  | nil => rfl
  | cons x l ih => simp only [flatL, List.flatMap_cons, List.length_append, Ent.cells, List.length_cons, List.length_nil] at ih ⊢; omega
theorem flat_at (l : List Ent) : ∀ (k c : Nat), c < 3 → (flatL l)[k * 3 + c]? = (l[k]?).bind fun x => x.cells[c]? := by
  induction l with
  | nil => intro k c _; simp [flatL]
  | cons x l ih =>
    intro k c hc
    have hx : x.cells.length = 3 := rfl
    cases k with
    | zero =>
      show (x.cells ++ flatL l)[0 * 3 + c]? = _
      rw [List.getElem?_append_left (by omega)]
      simp
    | succ k =>
      show (x.cells ++ flatL l)[(k + 1) * 3 + c]? = _
      rw [List.getElem?_append_right (by omega), hx, show (k + 1) * 3 + c - 3 = k * 3 + c by omega, ih k c hc]
      simp
theorem flat_ext {a b : List Value} (n : Nat) (ha : a.length = n * 3) (hb : b.length = n * 3) (h : ∀ k c, k < n → c < 3 → a[k * 3 + c]? = b[k * 3 + c]?) : a = b := by
  refine List.ext_getElem? fun p => ?_
  by_cases hp : p < n * 3
  · have := h (p / 3) (p % 3) (by omega) (by omega)
    rwa [show p / 3 * 3 + p % 3 = p by omega] at this
  · rw [List.getElem?_eq_none (by omega), List.getElem?_eq_none (by omega)]

theorem JE.cell {blk : Nat} {W : World} {d : Array Ent} (h : JE blk W d) {i : Nat} (hi : i < d.size) :
    W.cell? ⟨blk, i * 3, none⟩ = some (.string d[i]!.ch) ∧ W.cell? ⟨blk, i * 3 + 1, none⟩ = some (.int .i32 d[i]!.cnt) ∧ W.cell? ⟨blk, i * 3 + 1 + 1, none⟩ = some (.int .u8 (d[i]!.idx : Int)) := by
  have hg : d.toList[i]? = some d[i]! := by simp [hi]
  have h0 := flat_at d.toList i 0 (by omega)
  have h1 := flat_at d.toList i 1 (by omega)
  have h2 := flat_at d.toList i 2 (by omega)
  rw [hg] at h0 h1 h2
  refine ⟨?_, ?_, ?_⟩
  · rw [Lib.cell_of_heap h, List.getElem?_toArray]; exact h0
  · rw [Lib.cell_of_heap h, List.getElem?_toArray]; exact h1
  · rw [Lib.cell_of_heap h, List.getElem?_toArray]; exact h2
theorem JE.frozen {blk : Nat} {W : World} {d : Array Ent} (h : JE blk W d) (i : Nat) : W.frozen? ⟨blk, i, none⟩ = false := Lib.frozen_of_heap h i
theorem JE.lt_size {blk : Nat} {W : World} {d : Array Ent} (h : JE blk W d) : blk < W.heap.size := (Array.getElem?_eq_some_iff.1 h).1

theorem len_any (blk : Nat) (W : World) : Calls Tryd.prog 60 #[.slice (some ⟨blk, 0, none⟩) 64 64] W fun e w' => e = .returned (.int .i64 ((64 : Nat) : Int)) ∧ W = w' := by
  go_enter Tryd.func60, Tryd.ntmps60
  go_wp2
  go_ret
  exact ⟨rfl, rfl⟩

set_option maxHeartbeats 1000000 in
theorem less_any (blk : Nat) (W : World) (d : Array Ent) (i j : Nat) (h : JE blk W d) (hd : d.size = 64) (hi : i < 64) (hj : j < 64) :
    Calls Tryd.prog 61 #[.slice (some ⟨blk, 0, none⟩) 64 64, .int .i64 (i : Int), .int .i64 (j : Int)] W fun e w' => e = .returned (.bool (lt d[i]! d[j]!)) ∧ Below W.heap.size W w' := by
  obtain ⟨a0, a1, a2⟩ := h.cell (i := i) (by omega)
  obtain ⟨b0, b1, b2⟩ := h.cell (i := j) (by omega)
  have hlt := h.lt_size
  clear h hd
  have HLT : Hid (∀ x y : Ent, lt x y = (decide (y.cnt < x.cnt) || (x.cnt == y.cnt && decide ((x.idx : Int) < (y.idx : Int))))) := fun _ _ => rfl
  generalize d[i]! = x at *
  generalize d[j]! = y at *
  have hB : ∀ (o o' : Obj), Below W.heap.size W ((W.alloc o).alloc o') := fun o o' => ((Below.refl _ _).alloc (Nat.le_refl _) _).alloc (by simp) _
  have HB := Lib.hid hB
  clear hB
  by_cases h1 : y.cnt < x.cnt
  · go_enter Tryd.func61, Tryd.ntmps61
    go_wp2
    go_ret
    exact ⟨by rw [HLT.out]; simp [h1], HB.out _ _⟩
  · by_cases h2 : x.cnt = y.cnt
    · have h2b : (x.cnt == y.cnt) = true := by simpa using h2
      have h1b : decide (y.cnt < x.cnt) = false := by simpa using h1
      have H2 := Lib.hid h2
      clear h2
      go_enter Tryd.func61, Tryd.ntmps61
      go_wp2
      go_ret
      refine ⟨?_, HB.out _ _⟩
      rw [HLT.out, h1b, h2b]
      simp
    · have h2b : (x.cnt == y.cnt) = false := by simpa using h2
      have h1b : decide (y.cnt < x.cnt) = false := by simpa using h1
      clear h2
      go_enter Tryd.func61, Tryd.ntmps61
      go_wp2
      go_ret
      refine ⟨?_, HB.out _ _⟩
      rw [HLT.out, h1b, h2b]
      simp

theorem set_heap {W : World} {blk : Nat} {cs : List Value} {t : TypeId} (h : W.heap[blk]? = some (.cells cs.toArray t (0, 0))) (k : Nat) (u : Value) : (W.setCell ⟨blk, k, none⟩ u).heap[blk]? = some (.cells (cs.set k u).toArray t (0, 0)) := by
  simp [World.setCell, Array.getElem?_modify, h]
theorem set_grown (W : World) (blk k : Nat) (u : Value) : W.grownBy (W.setCell ⟨blk, k, none⟩ u) (some blk) :=
  ⟨rfl, rfl, rfl, by simp [World.setCell], fun i _ hi => Below.heap_setCell W ⟨blk, k, none⟩ u i (by simpa using hi)⟩

theorem grown_drew {a b : World} {row : Option Nat} (h : a.grownBy b row) : a.grownBy b.drew row := ⟨h.os, h.tape, h.output, h.size, h.block⟩
theorem JE.drew {blk : Nat} {W : World} {d : Array Ent} (h : JE blk W d) : JE blk W.drew d := h
theorem flat_swp (d : Array Ent) (i j : Nat) (hi : i < d.size) (hj : j < d.size) :
    ((((((flatL d.toList).set (i * 3) (.string d[j]!.ch)).set (i * 3 + 1) (.int .i32 d[j]!.cnt)).set (i * 3 + 2) (.int .u8 (d[j]!.idx : Int))).set (j * 3) (.string d[i]!.ch)).set (j * 3 + 1) (.int .i32 d[i]!.cnt)).set (j * 3 + 2) (.int .u8 (d[i]!.idx : Int)) =
      flatL (Go.Sort.swp d i j).toList := by
  have hl : (flatL d.toList).length = d.size * 3 := flat_len d.toList
  have hl2 : (flatL (Go.Sort.swp d i j).toList).length = d.size * 3 := by
    rw [flat_len]
    show (Go.Sort.swp d i j).size * 3 = _
    rw [Go.Sort.size_swp]
  refine flat_ext d.size (by simpa using hl) hl2 fun k c hk hc => ?_
  rw [flat_at _ k c hc]
  have hgk : (Go.Sort.swp d i j).toList[k]? = some (Go.Sort.swp d i j)[k]! := by
    have : k < (Go.Sort.swp d i j).size := by rw [Go.Sort.size_swp]; exact hk
    simp [this]
  have hgd : d.toList[k]? = some d[k]! := by simp [hk]
  rw [hgk]
  by_cases ej : k = j
  · subst ej
    rw [Go.Sort.swp_right d i k hk]
    have hc3 : c = 0 ∨ c = 1 ∨ c = 2 := by omega
    rcases hc3 with rfl | rfl | rfl
    · rw [List.getElem?_set_ne (by omega), List.getElem?_set_ne (by omega), List.getElem?_set, if_pos (by omega), if_pos (by simp only [List.length_set]; omega)]
      rfl
    · rw [List.getElem?_set_ne (by omega), List.getElem?_set_self (by simp only [List.length_set]; omega)]
      rfl
    · rw [List.getElem?_set_self (by simp only [List.length_set]; omega)]
      rfl
  · rw [List.getElem?_set_ne (by omega), List.getElem?_set_ne (by omega), List.getElem?_set_ne (by omega)]
    by_cases ei : k = i
    · subst ei
      rw [Go.Sort.swp_left d k j hk ej]
      have hc3 : c = 0 ∨ c = 1 ∨ c = 2 := by omega
      rcases hc3 with rfl | rfl | rfl
      · rw [List.getElem?_set_ne (by omega), List.getElem?_set_ne (by omega), List.getElem?_set, if_pos (by omega), if_pos (by omega)]
        rfl
      · rw [List.getElem?_set_ne (by omega), List.getElem?_set_self (by simp only [List.length_set]; omega)]
        rfl
      · rw [List.getElem?_set_self (by simp only [List.length_set]; omega)]
        rfl
    · rw [List.getElem?_set_ne (by omega), List.getElem?_set_ne (by omega), List.getElem?_set_ne (by omega), Go.Sort.swp_other d i j k ei ej, flat_at _ k c hc, hgd]

theorem swapped {blk : Nat} {W : World} {d : Array Ent} (h : JE blk W d) (i j : Nat) (hi : i < d.size) (hj : j < d.size) :
    W.grownBy ((((((W.setCell ⟨blk, i * 3, none⟩ (.string d[j]!.ch)).setCell ⟨blk, i * 3 + 1, none⟩ (.int .i32 d[j]!.cnt)).setCell ⟨blk, i * 3 + 2, none⟩ (.int .u8 (d[j]!.idx : Int))).setCell ⟨blk, j * 3, none⟩ (.string d[i]!.ch)).setCell ⟨blk, j * 3 + 1, none⟩ (.int .i32 d[i]!.cnt)).setCell ⟨blk, j * 3 + 2, none⟩ (.int .u8 (d[i]!.idx : Int))) (some blk) ∧
    JE blk ((((((W.setCell ⟨blk, i * 3, none⟩ (.string d[j]!.ch)).setCell ⟨blk, i * 3 + 1, none⟩ (.int .i32 d[j]!.cnt)).setCell ⟨blk, i * 3 + 2, none⟩ (.int .u8 (d[j]!.idx : Int))).setCell ⟨blk, j * 3, none⟩ (.string d[i]!.ch)).setCell ⟨blk, j * 3 + 1, none⟩ (.int .i32 d[i]!.cnt)).setCell ⟨blk, j * 3 + 2, none⟩ (.int .u8 (d[i]!.idx : Int))) (Go.Sort.swp d i j) := by
  refine ⟨grown_trans (grown_trans (grown_trans (grown_trans (grown_trans (set_grown _ _ _ _) (set_grown _ _ _ _)) (set_grown _ _ _ _)) (set_grown _ _ _ _)) (set_grown _ _ _ _)) (set_grown _ _ _ _), ?_⟩
  have := set_heap (set_heap (set_heap (set_heap (set_heap (set_heap h (i * 3) (.string d[j]!.ch)) (i * 3 + 1) (.int .i32 d[j]!.cnt)) (i * 3 + 2) (.int .u8 (d[j]!.idx : Int))) (j * 3) (.string d[i]!.ch)) (j * 3 + 1) (.int .i32 d[i]!.cnt)) (j * 3 + 2) (.int .u8 (d[i]!.idx : Int))
  rw [flat_swp d i j hi hj] at this
  exact this

set_option maxHeartbeats 1000000 in
theorem swap_lt (blk : Nat) (W : World) (d : Array Ent) (i j : Nat) (h : JE blk W d) (hd : d.size = 64) (hi : i < 64) (hj : j < 64) (hij : i < j) :
    Calls Tryd.prog 62 #[.slice (some ⟨blk, 0, none⟩) 64 64, .int .i64 (i : Int), .int .i64 (j : Int)] W fun e w' => e = .returned (.tuple #[]) ∧ W.grownBy w' (some blk) ∧ JE blk w' (Go.Sort.swp d i j) := by
  obtain ⟨a0, a1, a2⟩ := h.cell (i := i) (by omega)
  obtain ⟨b0, b1, b2⟩ := h.cell (i := j) (by omega)
  have hf := h.frozen
  have hlt := h.lt_size
  have f0 := hf (i * 3)
  have f1 := hf (i * 3 + 1)
  have f2 := hf (i * 3 + 1 + 1)
  have g0 := hf (j * 3)
  have g1 := hf (j * 3 + 1)
  have g2 := hf (j * 3 + 1 + 1)
  have H := Lib.hid (swapped h i j (by omega) (by omega))
  clear h hf hd
  generalize d[i]! = x at *
  generalize d[j]! = y at *
  go_enter Tryd.func62, Tryd.ntmps62
  go_region
  go_end0
  exact ⟨rfl, grown_drew H.out.1, H.out.2.drew⟩

set_option maxHeartbeats 1000000 in
theorem swap_gt (blk : Nat) (W : World) (d : Array Ent) (i j : Nat) (h : JE blk W d) (hd : d.size = 64) (hi : i < 64) (hj : j < 64) (hij : j < i) :
    Calls Tryd.prog 62 #[.slice (some ⟨blk, 0, none⟩) 64 64, .int .i64 (i : Int), .int .i64 (j : Int)] W fun e w' => e = .returned (.tuple #[]) ∧ W.grownBy w' (some blk) ∧ JE blk w' (Go.Sort.swp d i j) := by
  obtain ⟨a0, a1, a2⟩ := h.cell (i := i) (by omega)
  obtain ⟨b0, b1, b2⟩ := h.cell (i := j) (by omega)
  have hf := h.frozen
  have hlt := h.lt_size
  have f0 := hf (i * 3)
  have f1 := hf (i * 3 + 1)
  have f2 := hf (i * 3 + 1 + 1)
  have g0 := hf (j * 3)
  have g1 := hf (j * 3 + 1)
  have g2 := hf (j * 3 + 1 + 1)
  have H := Lib.hid (swapped h i j (by omega) (by omega))
  clear h hf hd
  generalize d[i]! = x at *
  generalize d[j]! = y at *
  go_enter Tryd.func62, Tryd.ntmps62
  go_region
  go_end0
  exact ⟨rfl, grown_drew H.out.1, H.out.2.drew⟩

set_option maxHeartbeats 1000000 in
theorem swap_eq (blk : Nat) (W : World) (d : Array Ent) (i : Nat) (h : JE blk W d) (hd : d.size = 64) (hi : i < 64) :
    Calls Tryd.prog 62 #[.slice (some ⟨blk, 0, none⟩) 64 64, .int .i64 (i : Int), .int .i64 (i : Int)] W fun e w' => e = .returned (.tuple #[]) ∧ W.grownBy w' (some blk) ∧ JE blk w' (Go.Sort.swp d i i) := by
  obtain ⟨a0, a1, a2⟩ := h.cell (i := i) (by omega)
  have hf := h.frozen
  have hlt := h.lt_size
  have f0 := hf (i * 3)
  have f1 := hf (i * 3 + 1)
  have f2 := hf (i * 3 + 1 + 1)
  have H := Lib.hid (swapped h i i (by omega) (by omega))
  clear h hf hd
  generalize d[i]! = x at *
  go_enter Tryd.func62, Tryd.ntmps62
  go_region
  go_end0
  exact ⟨rfl, grown_drew H.out.1, H.out.2.drew⟩

theorem row (blk : Nat) : Row blk 64 (.slice (some ⟨blk, 0, none⟩) 64 64) lt (JE blk) where
  less := fun W d i j h hd hi hj => less_any blk W d i j h hd hi hj
  swap := fun W d i j h hd hi hj => by
    rcases Nat.lt_trichotomy i j with hij | hij | hij
    · exact swap_lt blk W d i j h hd hi hj hij
    · subst hij; exact swap_eq blk W d i h hd hi
    · exact swap_gt blk W d i j h hd hi hj hij
  keep := fun W W' d h e => by unfold JE at h ⊢; rw [e]; exact h
  lt_size := fun W d h => h.lt_size
  small := by decide
  len := len_any blk

theorem swo : Go.Sort.SWO lt where
  irrefl := fun x => by simp [lt]
  trans := fun x y z h1 h2 => by
    simp only [lt, Bool.or_eq_true, Bool.and_eq_true, decide_eq_true_eq, beq_iff_eq] at *
    omega
  ntrans := fun x y z h1 h2 => by
    simp only [lt, Bool.or_eq_false_iff, Bool.and_eq_false_iff, decide_eq_false_iff_not, beq_eq_false_iff_ne] at *
    omega
end Go.Proofs.YtpmihkhmijndaaaDoor.srt
