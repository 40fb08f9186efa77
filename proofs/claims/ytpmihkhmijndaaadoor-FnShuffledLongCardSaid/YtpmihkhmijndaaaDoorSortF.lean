/- sort.breakPatterns over a row of several cells (turned from the shelf's text). -/
import Derived.Test.YtpmihkhmijndaaaDoorSortKit
import Derived.Test.YtpmihkhmijndaaaDoorShelf
import Derived.Shelf.GgSortMore.Bridge
import Derived.Sort.Walk7
import Derived.Lib.Builder
namespace Go.Proofs.YtpmihkhmijndaaaDoor.srt
open Go.Shelf Go.RowKit Go.Lib Go.Sort
variable {α : Type} [Inhabited α] {blk N : Nat} {rv : Value} {lt : α → α → Bool} {J : World → Array α → Prop}

/-- the row, and breakPatterns' own number beside it. -/
def RW (blk : Nat) (J : World → Array α → Prop) (w : World) (d : Array α) (r : Nat) (W : World) : Prop := SW blk J w d W ∧ W.heap[w.heap.size]? = some (.cells #[.int .u64 (r : Int)] 88 (0, 0))
theorem RW.next (R : Row blk N rv lt J) {w W : World} {d : Array α} {r : Nat} (h : RW blk J w d r W) (hw : blk < w.heap.size) (r' k : Nat) : RW blk J w d r' ((W.setCell ⟨w.heap.size, 0, none⟩ (.int .u64 (r' : Int))).drewN k) := by
  refine ⟨⟨⟨h.1.1.os, h.1.1.tape, h.1.1.output, ?_, fun i hi hr => ?_⟩, R.keep W _ d h.1.2 ?_⟩, ?_⟩
  · have := h.1.1.size
    simpa [World.setCell] using this
  · exact (Below.heap_setCell W ⟨w.heap.size, 0, none⟩ _ i (show i ≠ w.heap.size by omega)).trans (h.1.1.block i hi hr)
  · exact Below.heap_setCell W ⟨w.heap.size, 0, none⟩ _ blk (show blk ≠ w.heap.size by omega)
  · have := h.2
    show (W.setCell ⟨w.heap.size, 0, none⟩ (.int .u64 (r' : Int))).heap[w.heap.size]? = _
    simp [World.setCell, Array.getElem?_modify, this]
theorem RW.swap (R : Row blk N rv lt J) {w W : World} {X : Array α} {r : Nat} (i j : Nat) (hX : X.size = N) (hi : i < N) (hj : j < N) (hw : blk < w.heap.size) (C : Aside (RW blk J w X r W)) (ii jj : Int) (h1 : ii = (i : Int)) (h2 : jj = (j : Int)) :
    Calls Tryd.prog 62 #[rv, .int .i64 ii, .int .i64 jj] W fun e w' => e = .returned (.tuple #[]) ∧ Aside (RW blk J w (swp X i j) r w') := by
  subst h1; subst h2
  refine (R.swap W X i j C.out.1.2 hX hi hj).mono ?_
  rintro e w' ⟨rfl, hg, hJ⟩
  refine ⟨rfl, ⟨grown_trans C.out.1.1 hg, hJ⟩, ?_⟩
  rw [hg.block w.heap.size (Array.getElem?_eq_some_iff.1 C.out.2).1 (by simp; omega)]
  exact C.out.2

set_option maxHeartbeats 4000000 in
set_option maxRecDepth 1000000 in
theorem breakPatterns_go (R : Row blk N rv lt J) (a L : Nat) (d : Array α) (w : World) (hJ : J w d) (hd : d.size = N) (hb : a + L ≤ N) (h8 : 8 ≤ L) :
    Calls Tryd.prog 31 #[.iface 51 rv, .int .i64 (a : Int), .int .i64 ((a + L : Nat) : Int)] w fun e w' => e = .returned (.tuple #[]) ∧ Aside (SW blk J w (breakPatterns d a (a + L)) w') := by
  have hsz := R.small
  have hw := R.lt_size w d hJ
  rw [breakPatterns_eq d a L h8]
  obtain ⟨M, hM⟩ : ∃ M : Nat, M = 1 <<< bitsLen L := ⟨_, rfl⟩
  have hM1 : 1 ≤ M := by rw [hM, Nat.one_shiftLeft]; exact Nat.two_pow_pos _
  have hM2 : M ≤ 2 * L := by rw [hM, Nat.one_shiftLeft]; exact two_pow_bitsLen_le (by omega)
  have HNP : Hid (∀ w, Calls Tryd.prog 39 #[.int .i64 (L : Int)] w fun e w' => e = .returned (.int .u64 (M : Int)) ∧ w' = w) := by rw [hM]; exact fun w => Tryd.nextPowerOfTwo L (by omega) w
  rw [← hM]
  have C0 : Aside (RW blk J w d L (w.alloc (.cells #[.int .u64 (L : Int)] 88))) :=
    ⟨⟨grown_below ((Below.refl _ _).alloc (Nat.le_refl _) _), R.keep w _ d hJ (Below.heap_alloc w _ blk hw)⟩, heap_alloc_new w _⟩
  have HD := Lib.hid hd
  clear hM hJ hd
  have hLz : ((a : Int) + (L : Int) - (a : Int)) = (L : Int) := by omega
  have h8z : (8 : Int) ≤ (L : Int) := by omega
  go_enter Tryd.func31, Tryd.ntmps31
  go_wp2_with fail
  refine (HNP.out _).mono ?_
  rintro e w0 ⟨rfl, rfl⟩
  go_wp2_with fail
  go_loopg [9] 3 (fun g1 vi wr => ∃ (t : Nat) (r : UInt64) (dk : Array α), vi = .int .i64 ((a : Int) + (L : Int) / 4 * 2 - 1 + (t : Int)) ∧ t ≤ 3 ∧ 3 - t ≤ g1 ∧ Hid (dk.size = N) ∧ Aside (RW blk J w dk r.toNat wr) ∧
      Hid (bpRest a L M (a + L / 4 * 2 - 1) (3 - t) t (r, dk) = bpRest a L M (a + L / 4 * 2 - 1) 3 0 (UInt64.ofNat L, d)))
  case atStart =>
    refine ⟨0, UInt64.ofNat L, d, by simp, by omega, by omega, HD, ?_, rfl⟩
    rw [show (UInt64.ofNat L).toNat = L from by simp; omega]
    exact C0
  case round =>
    obtain ⟨t, r, dk, rfl, ht, hg1, hds, C, HR⟩ := hrel
    by_cases ht3 : t < 3
    · have hle : (a : Int) + (L : Int) / 4 * 2 - 1 + (t : Int) ≤ (a : Int) + (L : Int) / 4 * 2 + 1 := by omega
      obtain ⟨Rn, hRr⟩ : ∃ Rn : Nat, Rn = r.toNat := ⟨_, rfl⟩
      have lR : Rn < 18446744073709551616 := by rw [hRr]; exact r.toNat_lt
      obtain ⟨R', hR'⟩ : ∃ R' : Nat, R' = xorNextN Rn := ⟨_, rfl⟩
      have lR' : R' < 18446744073709551616 := by rw [hR']; exact xorNextN_lt Rn lR
      obtain ⟨O, hO⟩ : ∃ O : Nat, O = R' &&& (M - 1) := ⟨_, rfl⟩
      have lO : O ≤ M - 1 := by rw [hO]; exact Nat.and_le_right
      have eAnd : bits .and .u64 (R' : Int) ((M : Int) - 1) = (O : Int) := by
        rw [show ((M : Int) - 1) = ((M - 1 : Nat) : Int) by omega, bits_and_u64_nat _ _ lR' (by omega), hO]
      rw [← hRr] at C
      have cR : wr.cell? ⟨w.heap.size, 0, none⟩ = some (.int .u64 (Rn : Int)) := by rw [Lib.cell_of_heap C.out.2]; rfl
      have fR : wr.frozen? ⟨w.heap.size, 0, none⟩ = false := Lib.frozen_of_heap C.out.2 0
      have HN : Hid (Calls Tryd.prog 40 #[.pointer (some ⟨w.heap.size, 0, none⟩)] wr fun e w' => e = .returned (.int .u64 (R' : Int)) ∧ Aside (RW blk J w dk R' w')) := by
        refine (Tryd.xorshift_Next w.heap.size 0 Rn lR wr cR fR).mono ?_
        rintro e w' ⟨rfl, rfl⟩
        rw [← hR']
        exact ⟨rfl, RW.next R C.out hw R' 3⟩
      have HNN : Hid (R' = (xorNext r).toNat ∧ O = (xorNext r).toNat &&& (M - 1)) := by
        have e : R' = (xorNext r).toNat := by rw [hR', hRr, xorNext_toNat]
        exact ⟨e, by rw [hO, e]⟩
      clear hRr hR' hO cR fR
      by_cases hLO : L ≤ O
      · have hLOz : (L : Int) ≤ (O : Int) := by omega
        have HS := Lib.hid (fun (W : World) (C : Aside (RW blk J w dk R' W)) => RW.swap R (a + L / 4 * 2 - 1 + t) (a + (O - L)) hds.out (by omega) (by omega) hw C)
        go_wp2_with fail
        refine HN.out.mono ?_
        rintro e w1 ⟨rfl, C1⟩
        go_wp2_with fail
        refine (HS.out _ C1 _ _ (by omega) (by omega)).mono ?_
        rintro e w2 ⟨rfl, C2⟩
        go_wp2_with fail
        go_roundg (3 - (t + 1))
        case measure => omega
        case rel => exact ⟨t + 1, xorNext r, swp dk (a + L / 4 * 2 - 1 + t) (a + (O - L)), by congr 1; push_cast; omega, by omega, Nat.le_refl _, (show Hid _ from (size_swp _ _ _).trans hds.out), (show Aside _ from by rw [← HNN.out.1]; exact C2.out),
          (show Hid _ from by rw [← HR.out, bp_step a L M _ t r dk ((O - L)) ht3 (by rw [← HNN.out.2, if_pos (by omega)])]; exact rfl)⟩
      · have hLOz : ¬ (L : Int) ≤ (O : Int) := by omega
        have HS := Lib.hid (fun (W : World) (C : Aside (RW blk J w dk R' W)) => RW.swap R (a + L / 4 * 2 - 1 + t) (a + O) hds.out (by omega) (by omega) hw C)
        go_wp2_with fail
        refine HN.out.mono ?_
        rintro e w1 ⟨rfl, C1⟩
        go_wp2_with fail
        refine (HS.out _ C1 _ _ (by omega) (by omega)).mono ?_
        rintro e w2 ⟨rfl, C2⟩
        go_wp2_with fail
        go_roundg (3 - (t + 1))
        case measure => omega
        case rel => exact ⟨t + 1, xorNext r, swp dk (a + L / 4 * 2 - 1 + t) (a + O), by congr 1; push_cast; omega, by omega, Nat.le_refl _, (show Hid _ from (size_swp _ _ _).trans hds.out), (show Aside _ from by rw [← HNN.out.1]; exact C2.out),
          (show Hid _ from by rw [← HR.out, bp_step a L M _ t r dk (O) ht3 (by rw [← HNN.out.2, if_neg (by omega)])]; exact rfl)⟩
    · obtain rfl : t = 3 := by omega
      have hle : ¬ ((a : Int) + (L : Int) / 4 * 2 - 1 + ((3 : Nat) : Int) ≤ (a : Int) + (L : Int) / 4 * 2 + 1) := by omega
      go_wp2_with fail
      go_end0
      refine ⟨rfl, ?_⟩
      rw [← HR.out]
      exact C.out.1

theorem breakPatterns_any (R : Row blk N rv lt J) (a b : Nat) (d : Array α) (w : World) (hJ : J w d) (hd : d.size = N) (hab : a ≤ b) (hb : b ≤ N) :
    Calls Tryd.prog 31 #[.iface 51 rv, .int .i64 (a : Int), .int .i64 (b : Int)] w fun e w' => e = .returned (.tuple #[]) ∧ Aside (SW blk J w (breakPatterns d a b) w') := by
  obtain ⟨L, rfl⟩ : ∃ L, b = a + L := ⟨b - a, by omega⟩
  have hsz := R.small
  by_cases h8 : 8 ≤ L
  · exact breakPatterns_go R a L d w hJ hd hb h8
  · have hv : breakPatterns d a (a + L) = d := by unfold breakPatterns; simp only [Nat.add_sub_cancel_left]; rw [if_neg h8]
    rw [hv]
    have hLz : ((a : Int) + (L : Int) - (a : Int)) = (L : Int) := by omega
    have h8z : ¬ (8 : Int) ≤ (L : Int) := by omega
    have S0 : Aside (SW blk J w d w) := SW.start hJ
    clear hJ
    go_enter Tryd.func31, Tryd.ntmps31
    go_wp2_with fail
    go_end0
    exact ⟨rfl, S0⟩
end Go.Proofs.YtpmihkhmijndaaaDoor.srt
