/- sort.order2, median, medianAdjacent and choosePivot over a row of several cells (turned from the shelf's texts). -/
import Derived.Test.YtpmihkhmijndaaaDoorSortKit
import Derived.Shelf.GgSortFunc.Pivot
import Derived.Lib.Builder
namespace Go.Proofs.YtpmihkhmijndaaaDoor.srt
open Go.Shelf Go.RowKit Go.Lib Go.Sort
variable {α : Type} [Inhabited α] {blk N : Nat} {rv : Value} {lt : α → α → Bool} {J : World → Array α → Prop}

/-- the counter of choosePivot beside the row. -/
def CW (J : World → Array α → Prop) (w : World) (d : Array α) (cb s : Nat) (W : World) : Prop := RowKit.Below w.heap.size w W ∧ J W d ∧ W.heap[cb]? = some (.cells #[.int .i64 (s : Int)] 3 (0, 0))
theorem CW.same (R : Row blk N rv lt J) {w W W' : World} {d : Array α} {cb s : Nat} (h : CW J w d cb s W) (k : RowKit.Below W.heap.size W W') : CW J w d cb s W' :=
  ⟨h.1.trans (k.mono h.1.size), R.keep W W' d h.2.1 (k.block blk (R.lt_size W d h.2.1)), (k.block cb (Array.getElem?_eq_some_iff.1 h.2.2).1).trans h.2.2⟩
theorem CW.up (R : Row blk N rv lt J) {w W : World} {d : Array α} {cb s : Nat} (h : CW J w d cb s W) (hw : blk < w.heap.size) (hcb : w.heap.size ≤ cb) (s' : Nat) : CW J w d cb s' (W.setCell ⟨cb, 0, none⟩ (.int .i64 (s' : Int))) := by
  refine ⟨h.1.setCell (p := ⟨cb, 0, none⟩) hcb _, R.keep W _ d h.2.1 (Below.heap_setCell W ⟨cb, 0, none⟩ _ blk (show blk ≠ cb by omega)), ?_⟩
  have := h.2.2
  simp [World.setCell, Array.getElem?_modify, this]

set_option maxHeartbeats 1000000 in
set_option maxRecDepth 100000 in
theorem order2_any (R : Row blk N rv lt J) (a b cb s : Nat) (d : Array α) (w W : World) (hw : blk < w.heap.size) (hcb : w.heap.size ≤ cb) (C : Aside (CW J w d cb s W)) (hd : d.size = N) (ha : a < N) (hb : b < N) (hs : s < 4611686018427387904) :
    Calls Tryd.prog 43 #[.iface 51 rv, .int .i64 (a : Int), .int .i64 (b : Int), .pointer (some ⟨cb, 0, none⟩)] W fun e w' =>
      e = .returned (.tuple #[.int .i64 ((order2 lt d a b s).1 : Int), .int .i64 ((order2 lt d a b s).2.1 : Int)]) ∧ Aside (CW J w d cb (order2 lt d a b s).2.2 w') := by
  have HL : Hid (∀ v, lt d[b]! d[a]! = v → Calls Tryd.prog 61 #[rv, .int .i64 (b : Int), .int .i64 (a : Int)] W fun e w' => e = .returned (.bool v) ∧ Aside (CW J w d cb s w')) := by
    intro v hv
    refine (R.less W d b a C.out.2.1 hd hb ha).mono ?_
    rintro e w' ⟨rfl, hbw⟩
    exact ⟨by rw [hv], CW.same R C.out hbw⟩
  have HU := Lib.hid (fun (w1 : World) (C1 : Aside (CW J w d cb s w1)) => (show Aside _ from CW.up R C1.out hw hcb (s + 1)))
  clear hd
  go_enter Tryd.func43, Tryd.ntmps43
  cases hlv : lt d[b]! d[a]! with
  | true =>
    have e2 : Hid (order2 lt d a b s = (b, a, s + 1)) := by show _ = _; simp [order2, hlv]
    have HL1 := Lib.hid (HL.out true hlv)
    clear HL hlv
    go_wp2_with fail
    refine HL1.out.mono ?_
    rintro e w1 ⟨rfl, C1⟩
    have c0 : w1.cell? ⟨cb, 0, none⟩ = some (.int .i64 (s : Int)) := by rw [Lib.cell_of_heap C1.out.2.2]; rfl
    have f0 : w1.frozen? ⟨cb, 0, none⟩ = false := Lib.frozen_of_heap C1.out.2.2 0
    go_wp2_with fail
    go_ret2
    rw [e2.out]
    refine ⟨rfl, ?_⟩
    have := HU.out w1 C1
    rw [show ((s + 1 : Nat) : Int) = (s : Int) + 1 by omega] at this
    exact this
  | false =>
    have e2 : Hid (order2 lt d a b s = (a, b, s)) := by show _ = _; simp [order2, hlv]
    have HL1 := Lib.hid (HL.out false hlv)
    clear HL hlv
    go_wp2_with fail
    refine HL1.out.mono ?_
    rintro e w1 ⟨rfl, C1⟩
    go_wp2_with fail
    go_ret2
    rw [e2.out]
    exact ⟨rfl, C1⟩

set_option maxHeartbeats 1000000 in
set_option maxRecDepth 100000 in
theorem median_any (R : Row blk N rv lt J) (a b c cb s : Nat) (d : Array α) (w W : World) (hw : blk < w.heap.size) (hcb : w.heap.size ≤ cb) (C : Aside (CW J w d cb s W)) (hd : d.size = N) (ha : a < N) (hb : b < N) (hc : c < N) (hs : s + 3 < 4611686018427387904) :
    Calls Tryd.prog 42 #[.iface 51 rv, .int .i64 (a : Int), .int .i64 (b : Int), .int .i64 (c : Int), .pointer (some ⟨cb, 0, none⟩)] W fun e w' =>
      e = .returned (.int .i64 ((median lt d a b c s).1 : Int)) ∧ Aside (CW J w d cb (median lt d a b c s).2 w') := by
  subst hd
  have l1 := order2_lt' lt d s ha hb
  have s1 := order2_swaps' lt d a b s
  have l2 := order2_lt' lt d (order2 lt d a b s).2.2 l1.2 hc
  have s2 := order2_swaps' lt d (order2 lt d a b s).2.1 c (order2 lt d a b s).2.2
  have ST : Hid (∀ (X : World) (t a' b' : Nat), a' < d.size → b' < d.size → t < 4611686018427387904 → Aside (CW J w d cb t X) →
      Calls Tryd.prog 43 #[.iface 51 rv, .int .i64 (a' : Int), .int .i64 (b' : Int), .pointer (some ⟨cb, 0, none⟩)] X fun e w' =>
        e = .returned (.tuple #[.int .i64 ((order2 lt d a' b' t).1 : Int), .int .i64 ((order2 lt d a' b' t).2.1 : Int)]) ∧ Aside (CW J w d cb (order2 lt d a' b' t).2.2 w')) := fun X t a' b' ha' hb' ht CX => order2_any R a' b' cb t d w X hw hcb CX rfl ha' hb' ht
  have HM : Hid (median lt d a b c s = ((order2 lt d (order2 lt d a b s).1 (order2 lt d (order2 lt d a b s).2.1 c (order2 lt d a b s).2.2).1 (order2 lt d (order2 lt d a b s).2.1 c (order2 lt d a b s).2.2).2.2).2.1, (order2 lt d (order2 lt d a b s).1 (order2 lt d (order2 lt d a b s).2.1 c (order2 lt d a b s).2.2).1 (order2 lt d (order2 lt d a b s).2.1 c (order2 lt d a b s).2.2).2.2).2.2)) := rfl
  go_enter Tryd.func42, Tryd.ntmps42
  go_wp2_with fail
  refine (ST.out _ s a b ha hb (by omega) C).mono ?_
  rintro e w1 ⟨rfl, C1⟩
  go_wp2_with fail
  refine (ST.out _ _ _ c l1.2 hc (by omega) C1).mono ?_
  rintro e w2 ⟨rfl, C2⟩
  go_wp2_with fail
  refine (ST.out _ _ _ _ l1.1 l2.1 (by omega) C2).mono ?_
  rintro e w3 ⟨rfl, C3⟩
  go_wp2_with fail
  go_ret
  rw [HM.out]
  exact ⟨rfl, C3⟩

set_option maxHeartbeats 1000000 in
set_option maxRecDepth 100000 in
theorem medianAdjacent_any (R : Row blk N rv lt J) (a cb s : Nat) (d : Array α) (w W : World) (hw : blk < w.heap.size) (hcb : w.heap.size ≤ cb) (C : Aside (CW J w d cb s W)) (hd : d.size = N) (ha1 : 1 ≤ a) (ha2 : a + 1 < N) (hs : s + 3 < 4611686018427387904) :
    Calls Tryd.prog 41 #[.iface 51 rv, .int .i64 (a : Int), .pointer (some ⟨cb, 0, none⟩)] W fun e w' =>
      e = .returned (.int .i64 ((medianAdjacent lt d a s).1 : Int)) ∧ Aside (CW J w d cb (medianAdjacent lt d a s).2 w') := by
  have hsz := R.small
  have hm := median_any R (a - 1) a (a + 1) cb s d w W hw hcb C hd (by omega) (by omega) ha2 hs
  rw [show ((a - 1 : Nat) : Int) = (a : Int) - 1 by omega, show ((a + 1 : Nat) : Int) = (a : Int) + 1 by omega] at hm
  have HM := Lib.hid hm
  have HE : Hid (medianAdjacent lt d a s = median lt d (a - 1) a (a + 1) s) := rfl
  clear hm
  go_enter Tryd.func41, Tryd.ntmps41
  go_wp2_with fail
  refine HM.out.mono ?_
  rintro e w1 ⟨rfl, C1⟩
  go_wp2_with fail
  go_ret
  rw [HE.out]
  exact ⟨rfl, C1⟩

theorem CW.start (R : Row blk N rv lt J) {w : World} {d : Array α} (h : J w d) : CW J w d w.heap.size 0 (w.alloc (.cells #[.int .i64 0] 3)) :=
  ⟨(Below.refl _ _).alloc (Nat.le_refl _) _, R.keep w _ d h (Below.heap_alloc w _ blk (R.lt_size w d h)), heap_alloc_new w _⟩

set_option maxHeartbeats 2000000 in
set_option maxRecDepth 100000 in
theorem choosePivot_any (R : Row blk N rv lt J) (a b : Nat) (d : Array α) (W : World) (hJ : J W d) (hd : d.size = N) (hab : a < b) (hb : b ≤ N) :
    Calls Tryd.prog 32 #[.iface 51 rv, .int .i64 (a : Int), .int .i64 (b : Int)] W fun e w' =>
      e = .returned (.tuple #[.int .i64 ((choosePivot lt d a b).1 : Int), .int .i64 (hintCode (choosePivot lt d a b).2)]) ∧ RowKit.Below W.heap.size W w' := by
  have hsz := R.small
  have hw := R.lt_size W d hJ
  have C0 : Aside (CW J W d W.heap.size 0 (W.alloc (.cells #[.int .i64 0] 3))) := CW.start R hJ
  have MA : ∀ x s X, 1 ≤ x → x + 1 < N → s + 3 < 4611686018427387904 → Aside (CW J W d W.heap.size s X) → Calls Tryd.prog 41 #[.iface 51 rv, .int .i64 (x : Int), .pointer (some ⟨W.heap.size, 0, none⟩)] X fun e w' => e = .returned (.int .i64 ((medianAdjacent lt d x s).1 : Int)) ∧ Aside (CW J W d W.heap.size (medianAdjacent lt d x s).2 w') :=
    fun x s X h1 h2 h3 CX => medianAdjacent_any R x W.heap.size s d W X hw (Nat.le_refl _) CX hd h1 h2 h3
  have MD : ∀ x y z s X, x < N → y < N → z < N → s + 3 < 4611686018427387904 → Aside (CW J W d W.heap.size s X) → Calls Tryd.prog 42 #[.iface 51 rv, .int .i64 (x : Int), .int .i64 (y : Int), .int .i64 (z : Int), .pointer (some ⟨W.heap.size, 0, none⟩)] X fun e w' => e = .returned (.int .i64 ((median lt d x y z s).1 : Int)) ∧ Aside (CW J W d W.heap.size (median lt d x y z s).2 w') :=
    fun x y z s X h1 h2 h3 h4 CX => median_any R x y z W.heap.size s d W X hw (Nat.le_refl _) CX hd h1 h2 h3 h4
  clear hJ
  rw [choosePivot_eq]
  obtain ⟨I, hI⟩ : ∃ I : Nat, I = a + (b - a) / 4 * 1 := ⟨_, rfl⟩
  obtain ⟨Jx, hJx⟩ : ∃ Jx : Nat, Jx = a + (b - a) / 4 * 2 := ⟨_, rfl⟩
  obtain ⟨K, hK⟩ : ∃ K : Nat, K = a + (b - a) / 4 * 3 := ⟨_, rfl⟩
  have eI : ((a : Int) + ((b : Int) - (a : Int)) / 4) = (I : Int) := by omega
  have eJ : ((a : Int) + ((b : Int) - (a : Int)) / 4 * 2) = (Jx : Int) := by omega
  have eK : ((a : Int) + ((b : Int) - (a : Int)) / 4 * 3) = (K : Int) := by omega
  by_cases h8 : b - a ≥ 8
  · by_cases h50 : b - a ≥ 50
    · -- the ninther
      obtain ⟨i1, s1, h1⟩ : ∃ i1 s1, medianAdjacent lt d I 0 = (i1, s1) := ⟨_, _, rfl⟩
      obtain ⟨j1, s2, h2⟩ : ∃ j1 s2, medianAdjacent lt d Jx s1 = (j1, s2) := ⟨_, _, rfl⟩
      obtain ⟨k1, s3, h3⟩ : ∃ k1 s3, medianAdjacent lt d K s2 = (k1, s3) := ⟨_, _, rfl⟩
      obtain ⟨p, s, h4⟩ : ∃ p s, median lt d i1 j1 k1 s3 = (p, s) := ⟨_, _, rfl⟩
      have hraw : rawPivot lt d a b = (p, s) := by simp only [rawPivot, if_pos h8, if_pos h50, ← hI, ← hJx, ← hK, h1, h2, h3, h4]
      have m1 := medianAdjacent_mem lt d I 0; rw [h1] at m1
      have m2 := medianAdjacent_mem lt d Jx s1; rw [h2] at m2
      have m3 := medianAdjacent_mem lt d K s2; rw [h3] at m3
      have n1 := medianAdjacent_count lt d I 0; rw [h1] at n1
      have n2 := medianAdjacent_count lt d Jx s1; rw [h2] at n2
      have n3 := medianAdjacent_count lt d K s2; rw [h3] at n3
      simp only [] at m1 m2 m3 n1 n2 n3
      have c1 : Hid (∀ X, Aside (CW J W d W.heap.size 0 X) → Calls Tryd.prog 41 #[.iface 51 rv, .int .i64 (I : Int), .pointer (some ⟨W.heap.size, 0, none⟩)] X fun e w' => e = .returned (.int .i64 (i1 : Int)) ∧ Aside (CW J W d W.heap.size s1 w')) := fun X CX => by
        have h := MA I 0 X (by omega) (by omega) (by omega) CX; rw [h1] at h; exact h
      have c2 : Hid (∀ X, Aside (CW J W d W.heap.size s1 X) → Calls Tryd.prog 41 #[.iface 51 rv, .int .i64 (Jx : Int), .pointer (some ⟨W.heap.size, 0, none⟩)] X fun e w' => e = .returned (.int .i64 (j1 : Int)) ∧ Aside (CW J W d W.heap.size s2 w')) := fun X CX => by
        have h := MA Jx s1 X (by omega) (by omega) (by omega) CX; rw [h2] at h; exact h
      have c3 : Hid (∀ X, Aside (CW J W d W.heap.size s2 X) → Calls Tryd.prog 41 #[.iface 51 rv, .int .i64 (K : Int), .pointer (some ⟨W.heap.size, 0, none⟩)] X fun e w' => e = .returned (.int .i64 (k1 : Int)) ∧ Aside (CW J W d W.heap.size s3 w')) := fun X CX => by
        have h := MA K s2 X (by omega) (by omega) (by omega) CX; rw [h3] at h; exact h
      have c4 : Hid (∀ X, Aside (CW J W d W.heap.size s3 X) → Calls Tryd.prog 42 #[.iface 51 rv, .int .i64 (i1 : Int), .int .i64 (j1 : Int), .int .i64 (k1 : Int), .pointer (some ⟨W.heap.size, 0, none⟩)] X fun e w' => e = .returned (.int .i64 (p : Int)) ∧ Aside (CW J W d W.heap.size s w')) := fun X CX => by
        have h := MD i1 j1 k1 s3 X (by omega) (by omega) (by omega) (by omega) CX; rw [h4] at h; exact h
      rw [hraw]
      obtain ⟨Hc, hHc⟩ : ∃ Hc : Int, Hc = hintCode (hintOf s) := ⟨_, rfl⟩
      have hh0 : Hid (s = 0 → Hc = 1) := fun h => by rw [hHc, h]; rfl
      have hh12 : Hid (s = 12 → Hc = 2) := fun h => by rw [hHc, h]; rfl
      have hhx : Hid (s ≠ 0 → s ≠ 12 → Hc = 0) := fun h1 h2 => by rw [hHc]; unfold hintOf; rw [if_neg h1, if_neg h2]; rfl
      show Calls Tryd.prog 32 _ W fun e w' => e = .returned (.tuple #[.int .i64 (p : Int), .int .i64 (hintCode (hintOf s))]) ∧ RowKit.Below W.heap.size W w'
      rw [← hHc]
      clear hHc hraw
      clear h1 h2 h3 h4 MA MD hI hJx hK m1 m2 m3 hd
      go_enter Tryd.func32, Tryd.ntmps32
      go_wp2_with fail
      refine (c1.out _ C0).mono ?_
      rintro e w1 ⟨rfl, C1⟩
      go_wp2_with fail
      refine (c2.out _ C1).mono ?_
      rintro e w2 ⟨rfl, C2⟩
      go_wp2_with fail
      refine (c3.out _ C2).mono ?_
      rintro e w3 ⟨rfl, C3⟩
      go_wp2_with fail
      refine (c4.out _ C3).mono ?_
      rintro e w4 ⟨rfl, C4⟩
      have c0 : w4.cell? ⟨W.heap.size, 0, none⟩ = some (.int .i64 (s : Int)) := by rw [Lib.cell_of_heap C4.out.2.2]; rfl
      go_wp2_with fail
      all_goals
        go_ret2
        refine ⟨?_, C4.out.1⟩
        first
          | (have e0 : (s : Int) = 0 := of_beq_int (by assumption)
             rw [hh0.out (by omega)]; rfl)
          | (have e1 : (s : Int) = 12 := of_beq_int (by assumption)
             rw [hh12.out (by omega)]; rfl)
          | (have e0 : (s : Int) ≠ 0 := of_bne_int (by assumption)
             have e1 : (s : Int) ≠ 12 := of_bne_int (by assumption)
             rw [hhx.out (by omega) (by omega)]; rfl)
          | (rw [hh0.out (by omega)]; rfl)
    · -- the median of three
      obtain ⟨p, s, h4⟩ : ∃ p s, median lt d I Jx K 0 = (p, s) := ⟨_, _, rfl⟩
      have hraw : rawPivot lt d a b = (p, s) := by simp only [rawPivot, if_pos h8, if_neg h50, ← hI, ← hJx, ← hK, h4]
      have c4 : Hid (∀ X, Aside (CW J W d W.heap.size 0 X) → Calls Tryd.prog 42 #[.iface 51 rv, .int .i64 (I : Int), .int .i64 (Jx : Int), .int .i64 (K : Int), .pointer (some ⟨W.heap.size, 0, none⟩)] X fun e w' => e = .returned (.int .i64 (p : Int)) ∧ Aside (CW J W d W.heap.size s w')) := fun X CX => by
        have h := MD I Jx K 0 X (by omega) (by omega) (by omega) (by omega) CX; rw [h4] at h; exact h
      rw [hraw]
      obtain ⟨Hc, hHc⟩ : ∃ Hc : Int, Hc = hintCode (hintOf s) := ⟨_, rfl⟩
      have hh0 : Hid (s = 0 → Hc = 1) := fun h => by rw [hHc, h]; rfl
      have hh12 : Hid (s = 12 → Hc = 2) := fun h => by rw [hHc, h]; rfl
      have hhx : Hid (s ≠ 0 → s ≠ 12 → Hc = 0) := fun h1 h2 => by rw [hHc]; unfold hintOf; rw [if_neg h1, if_neg h2]; rfl
      show Calls Tryd.prog 32 _ W fun e w' => e = .returned (.tuple #[.int .i64 (p : Int), .int .i64 (hintCode (hintOf s))]) ∧ RowKit.Below W.heap.size W w'
      rw [← hHc]
      clear hHc hraw
      clear h4 MA MD hI hJx hK hd
      go_enter Tryd.func32, Tryd.ntmps32
      go_wp2_with fail
      refine (c4.out _ C0).mono ?_
      rintro e w4 ⟨rfl, C4⟩
      have c0 : w4.cell? ⟨W.heap.size, 0, none⟩ = some (.int .i64 (s : Int)) := by rw [Lib.cell_of_heap C4.out.2.2]; rfl
      go_wp2_with fail
      all_goals
        go_ret2
        refine ⟨?_, C4.out.1⟩
        first
          | (have e0 : (s : Int) = 0 := of_beq_int (by assumption)
             rw [hh0.out (by omega)]; rfl)
          | (have e1 : (s : Int) = 12 := of_beq_int (by assumption)
             rw [hh12.out (by omega)]; rfl)
          | (have e0 : (s : Int) ≠ 0 := of_bne_int (by assumption)
             have e1 : (s : Int) ≠ 12 := of_bne_int (by assumption)
             rw [hhx.out (by omega) (by omega)]; rfl)
          | (rw [hh0.out (by omega)]; rfl)
  · -- fewer than eight: the middle; nothing is counted
    obtain ⟨p, hp⟩ : ∃ p : Nat, p = Jx := ⟨_, rfl⟩
    have hraw : rawPivot lt d a b = (p, 0) := by simp only [rawPivot, if_neg h8, ← hJx, hp]
    rw [hraw]
    show Calls Tryd.prog 32 _ W fun e w' => e = .returned (.tuple #[.int .i64 (p : Int), .int .i64 1]) ∧ RowKit.Below W.heap.size W w'
    clear hraw
    subst hp
    clear MA MD hI hJx hK hd
    go_enter Tryd.func32, Tryd.ntmps32
    go_wp2_with fail
    go_ret2
    exact ⟨rfl, C0.out.1⟩
end Go.Proofs.YtpmihkhmijndaaaDoor.srt
