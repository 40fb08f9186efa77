/- sort.reverseRange, siftDown and heapSort over a row of several cells (turned from the shelf's texts). -/
import Derived.Test.YtpmihkhmijndaaaDoorSortKit
namespace Go.Proofs.YtpmihkhmijndaaaDoor.srt
open Go.Shelf Go.RowKit Go.Lib Go.Sort
variable {α : Type} [Inhabited α] {blk N : Nat} {rv : Value} {lt : α → α → Bool} {J : World → Array α → Prop}

set_option maxHeartbeats 1600000 in
set_option maxRecDepth 1000000 in
theorem reverseRange_any (R : Row blk N rv lt J) (a b : Nat) (d : Array α) (w : World) (hJ : J w d) (hd : d.size = N) (hab : a ≤ b) (hb : b ≤ N) :
    Calls Tryd.prog 33 #[.iface 51 rv, .int .i64 (a : Int), .int .i64 (b : Int)] w fun e w' => e = .returned (.tuple #[]) ∧ Aside (SW blk J w (reverseRange d a b) w') := by
  have hsz := R.small
  have S0 : Aside (SW blk J w d w) := SW.start hJ
  have HD := Lib.hid hd
  clear hJ hd
  go_enter Tryd.func33, Tryd.ntmps33
  go_wp2
  go_loopg [6, 7] (b - a) (fun k s6 s7 wr => ∃ (i jn : Nat) (jz : Int) (dk : Array α), s6 = .int .i64 (i : Int) ∧ s7 = .int .i64 jz ∧ ((i : Int) < jz → jz = (jn : Int) ∧ jn < N) ∧ (¬ (i : Int) < jz → ¬ i < jn) ∧ jn - i ≤ k ∧
    Hid (dk.size = N) ∧ Aside (SW blk J w dk wr) ∧ Hid (reverseLoop i jn dk = reverseLoop a (b - 1) d))
  case atStart => exact ⟨a, b - 1, (b : Int) - 1, d, rfl, rfl, fun h => ⟨by omega, by omega⟩, fun h => by omega, by omega, HD, S0, rfl⟩
  case round =>
    obtain ⟨i, jn, jz, dk, rfl, rfl, h1, h2, hk, hds, S, HE⟩ := hrel
    by_cases hlt : (i : Int) < jz
    · obtain ⟨rfl, hjn⟩ := h1 hlt
      have hij : i < jn := by omega
      have HS := Lib.hid (R.swapAt (w := w) i jn hds.out (by omega) (by omega))
      clear h1 h2
      go_wp2_with fail
      refine (HS.out _ _ _ (by omega) (by omega) S).mono ?_
      rintro e w1 ⟨rfl, S1⟩
      go_wp2_with fail
      go_roundg (jn - 1 - (i + 1))
      case measure => omega
      case rel =>
        have heq := HE.out
        rw [reverseLoop, if_pos hij] at heq
        exact ⟨i + 1, jn - 1, (jn : Int) - 1, swp dk i jn, by simp, rfl, fun h => ⟨by omega, by omega⟩, fun h => by omega, Nat.le_refl _, (show Hid _ from (size_swp _ _ _).trans hds.out), S1, heq⟩
    · have hnot := h2 hlt
      clear h1 h2
      go_wp2_with fail
      go_end0
      have heq := HE.out
      rw [reverseLoop, if_neg hnot] at heq
      rw [reverseRange, ← heq]
      exact ⟨rfl, S⟩

set_option maxHeartbeats 4000000 in
set_option maxRecDepth 1000000 in
theorem siftDown_any (R : Row blk N rv lt J) (lo hi first : Nat) (d : Array α) (w : World) (hJ : J w d) (hd : d.size = N) (hlo : lo ≤ hi) (hb : first + hi ≤ N) :
    Calls Tryd.prog 38 #[.iface 51 rv, .int .i64 (lo : Int), .int .i64 (hi : Int), .int .i64 (first : Int)] w fun e w' => e = .returned (.tuple #[]) ∧ Aside (SW blk J w (siftDown lt hi first lo d) w') := by
  have hsz := R.small
  have S0 : Aside (SW blk J w d w) := SW.start hJ
  have HD := Lib.hid hd
  clear hJ hd
  go_enter Tryd.func38, Tryd.ntmps38
  go_wp2
  go_loopg [8] (hi - lo) (fun kx s8 wr => ∃ (root : Nat) (dk : Array α), s8 = .int .i64 (root : Int) ∧ root ≤ hi ∧ hi - root ≤ kx ∧ Hid (dk.size = N) ∧ Aside (SW blk J w dk wr) ∧ Hid (siftDown lt hi first root dk = siftDown lt hi first lo d))
  case atStart => exact ⟨lo, d, rfl, hlo, Nat.le_refl _, HD, S0, rfl⟩
  case round =>
    obtain ⟨root, dk, rfl, hr, hkx, hds, S, HE⟩ := hrel
    by_cases h0 : hi ≤ 2 * root + 1
    · have h0z : (hi : Int) ≤ 2 * (root : Int) + 1 := by omega
      go_wp2_with fail
      go_end0
      refine ⟨rfl, ?_⟩
      rw [← HE.out, sd_end lt dk h0]
      exact S
    · have h0z : ¬ ((hi : Int) ≤ 2 * (root : Int) + 1) := by omega
      by_cases h1 : 2 * root + 2 < hi
      · have h1z : 2 * (root : Int) + 1 + 1 < (hi : Int) := by omega
        cases hL : lt dk[first + (2 * root + 1)]! dk[first + (2 * root + 2)]! with
        | true =>
          have HL1 := Lib.hid (R.lessAt (w := w) (first + (2 * root + 1)) (first + (2 * root + 2)) true hds.out (by omega) (by omega) hL)
          cases hG : lt dk[first + root]! dk[first + (2 * root + 2)]! with
          | true =>
            have HL2 := Lib.hid (R.lessAt (w := w) (first + root) (first + (2 * root + 2)) true hds.out (by omega) (by omega) hG)
            have HS := Lib.hid (R.swapAt (w := w) (first + root) (first + (2 * root + 2)) hds.out (by omega) (by omega))
            go_wp2_with fail
            refine (HL1.out _ _ _ (by omega) (by omega) S).mono ?_
            rintro e w1 ⟨rfl, S1⟩
            go_wp2_with fail
            refine (HL2.out _ _ _ (by omega) (by omega) S1).mono ?_
            rintro e w2 ⟨rfl, S2⟩
            go_wp2_with fail
            refine (HS.out _ _ _ (by omega) (by omega) S2).mono ?_
            rintro e w3 ⟨rfl, S3⟩
            go_wp2_with fail
            go_roundg (hi - (2 * root + 2))
            case measure => omega
            case rel => exact ⟨2 * root + 2, swp dk (first + root) (first + (2 * root + 2)), by go_num, by omega, Nat.le_refl _, (show Hid _ from (size_swp _ _ _).trans hds.out), S3, (show Hid _ from by rw [← HE.out, sd_right_go lt dk h1 hL hG]; exact rfl)⟩
          | false =>
            have HL2 := Lib.hid (R.lessAt (w := w) (first + root) (first + (2 * root + 2)) false hds.out (by omega) (by omega) hG)
            go_wp2_with fail
            refine (HL1.out _ _ _ (by omega) (by omega) S).mono ?_
            rintro e w1 ⟨rfl, S1⟩
            go_wp2_with fail
            refine (HL2.out _ _ _ (by omega) (by omega) S1).mono ?_
            rintro e w2 ⟨rfl, S2⟩
            go_wp2_with fail
            (try simp only [Exit.inBlock, Exit.then]); refine bodyPost_ret (results_none rfl _ _ _) rfl ?_
            refine ⟨rfl, ?_⟩
            rw [← HE.out, sd_right_stop lt dk h1 hL hG]
            exact S2
        | false =>
          have HL1 := Lib.hid (R.lessAt (w := w) (first + (2 * root + 1)) (first + (2 * root + 2)) false hds.out (by omega) (by omega) hL)
          cases hG : lt dk[first + root]! dk[first + (2 * root + 1)]! with
          | true =>
            have HL2 := Lib.hid (R.lessAt (w := w) (first + root) (first + (2 * root + 1)) true hds.out (by omega) (by omega) hG)
            have HS := Lib.hid (R.swapAt (w := w) (first + root) (first + (2 * root + 1)) hds.out (by omega) (by omega))
            go_wp2_with fail
            refine (HL1.out _ _ _ (by omega) (by omega) S).mono ?_
            rintro e w1 ⟨rfl, S1⟩
            go_wp2_with fail
            refine (HL2.out _ _ _ (by omega) (by omega) S1).mono ?_
            rintro e w2 ⟨rfl, S2⟩
            go_wp2_with fail
            refine (HS.out _ _ _ (by omega) (by omega) S2).mono ?_
            rintro e w3 ⟨rfl, S3⟩
            go_wp2_with fail
            go_roundg (hi - (2 * root + 1))
            case measure => omega
            case rel => exact ⟨2 * root + 1, swp dk (first + root) (first + (2 * root + 1)), by go_num, by omega, Nat.le_refl _, (show Hid _ from (size_swp _ _ _).trans hds.out), S3, (show Hid _ from by rw [← HE.out, sd_left_go lt dk (by omega) (fun _ => hL) hG]; exact rfl)⟩
          | false =>
            have HL2 := Lib.hid (R.lessAt (w := w) (first + root) (first + (2 * root + 1)) false hds.out (by omega) (by omega) hG)
            go_wp2_with fail
            refine (HL1.out _ _ _ (by omega) (by omega) S).mono ?_
            rintro e w1 ⟨rfl, S1⟩
            go_wp2_with fail
            refine (HL2.out _ _ _ (by omega) (by omega) S1).mono ?_
            rintro e w2 ⟨rfl, S2⟩
            go_wp2_with fail
            (try simp only [Exit.inBlock, Exit.then]); refine bodyPost_ret (results_none rfl _ _ _) rfl ?_
            refine ⟨rfl, ?_⟩
            rw [← HE.out, sd_left_stop lt dk (by omega) (fun _ => hL) hG]
            exact S2
      · have h1z : ¬ (2 * (root : Int) + 1 + 1 < (hi : Int)) := by omega
        cases hG : lt dk[first + root]! dk[first + (2 * root + 1)]! with
        | true =>
          have HL2 := Lib.hid (R.lessAt (w := w) (first + root) (first + (2 * root + 1)) true hds.out (by omega) (by omega) hG)
          have HS := Lib.hid (R.swapAt (w := w) (first + root) (first + (2 * root + 1)) hds.out (by omega) (by omega))
          go_wp2_with fail
          refine (HL2.out _ _ _ (by omega) (by omega) S).mono ?_
          rintro e w2 ⟨rfl, S2⟩
          go_wp2_with fail
          refine (HS.out _ _ _ (by omega) (by omega) S2).mono ?_
          rintro e w3 ⟨rfl, S3⟩
          go_wp2_with fail
          go_roundg (hi - (2 * root + 1))
          case measure => omega
          case rel => exact ⟨2 * root + 1, swp dk (first + root) (first + (2 * root + 1)), by go_num, by omega, Nat.le_refl _, (show Hid _ from (size_swp _ _ _).trans hds.out), S3, (show Hid _ from by rw [← HE.out, sd_left_go lt dk (by omega) (fun h => absurd h h1) hG]; exact rfl)⟩
        | false =>
          have HL2 := Lib.hid (R.lessAt (w := w) (first + root) (first + (2 * root + 1)) false hds.out (by omega) (by omega) hG)
          go_wp2_with fail
          refine (HL2.out _ _ _ (by omega) (by omega) S).mono ?_
          rintro e w2 ⟨rfl, S2⟩
          go_wp2_with fail
          (try simp only [Exit.inBlock, Exit.then]); refine bodyPost_ret (results_none rfl _ _ _) rfl ?_
          refine ⟨rfl, ?_⟩
          rw [← HE.out, sd_left_stop lt dk (by omega) (fun h => absurd h h1) hG]
          exact S2

set_option maxHeartbeats 4000000 in
set_option maxRecDepth 1000000 in
theorem heapSort_any (R : Row blk N rv lt J) (a b : Nat) (d : Array α) (w : World) (hJ : J w d) (hd : d.size = N) (hab : a ≤ b) (hb : b ≤ N) :
    Calls Tryd.prog 30 #[.iface 51 rv, .int .i64 (a : Int), .int .i64 (b : Int)] w fun e w' => e = .returned (.tuple #[]) ∧ Aside (SW blk J w (heapSort lt d a b) w') := by
  have hsz := R.small
  have S0 : Aside (SW blk J w d w) := SW.start hJ
  have HD := Lib.hid hd
  clear hJ hd
  have ecast : ((b - a : Nat) : Int) = (b : Int) - (a : Int) := by omega
  have HEC := Lib.hid ecast
  clear ecast
  go_enter Tryd.func30, Tryd.ntmps30
  go_wp2
  go_loopg [9] ((b - a - 1) / 2 + 1) (fun kx s9 wr => s9 = .int .i64 ((kx : Int) - 1) ∧ kx ≤ (b - a - 1) / 2 + 1 ∧ ∃ (dk : Array α), Hid (dk.size = N) ∧ Aside (SW blk J w dk wr) ∧
    Hid (heapBuild lt (b - a) a kx dk = heapBuild lt (b - a) a ((b - a - 1) / 2 + 1) d))
  case atStart => exact ⟨by rw [half_start hab], Nat.le_refl _, d, HD, S0, rfl⟩
  case round =>
    obtain ⟨rfl, hkk, dk, hds, S, HE⟩ := hrel
    cases gk with
    | zero =>
      have hB : Hid (dk = heapBuild lt (b - a) a ((b - a - 1) / 2 + 1) d) := HE.out
      clear HE hkk
      go_wp2
      go_loopg [10] (b - a) (fun kx s10 wr2 => s10 = .int .i64 ((kx : Int) - 1) ∧ kx ≤ b - a ∧ ∃ (dj : Array α), Hid (dj.size = N) ∧ Aside (SW blk J w dj wr2) ∧ Hid (heapPop lt a kx dj = heapPop lt a (b - a) dk))
      case atStart => exact ⟨by rw [HEC.out], Nat.le_refl _, dk, hds, S, rfl⟩
      case round =>
        obtain ⟨rfl, hkk, dj, hdj, S2, HE2⟩ := hrel
        clear S
        cases gk with
        | zero =>
          go_wp2
          go_end0
          have e : dj = heapSort lt d a b := by rw [heapSort, ← hB.out, ← HE2.out]; rfl
          rw [← e]
          exact ⟨rfl, S2⟩
        | succ kx =>
          have hd2 : (swp dj a (a + kx)).size = N := by rw [size_swp]; exact hdj.out
          have HS := Lib.hid (R.swapAt (w := w) a (a + kx) hdj.out (by omega) (by omega))
          have HC := Lib.hid (fun (W : World) (hJ : J W (swp dj a (a + kx))) => siftDown_any R 0 kx a (swp dj a (a + kx)) W hJ hd2 (Nat.zero_le _) (by omega))
          have HD2 := Lib.hid hd2
          clear hd2
          go_wp2_with fail
          refine (HS.out _ _ _ (by omega) (by omega) S2).mono ?_
          rintro e w3 ⟨rfl, S3⟩
          go_wp2_with fail
          refine (HC.out _ S3.out.2).mono ?_
          rintro e w4 ⟨rfl, S4⟩
          go_wp2_with fail
          go_roundg kx
          case measure => omega
          case rel =>
            have hss : (siftDown lt kx a 0 (swp dj a (a + kx))).size = (swp dj a (a + kx)).size := size_siftDown lt _ _ _ _ _ (Nat.le_refl _)
            exact ⟨by simp, by omega, siftDown lt kx a 0 (swp dj a (a + kx)), (show Hid _ from hss.trans HD2.out), (show Aside _ from SW.trans S3.out S4.out), HE2⟩
    | succ kx =>
      have HC := Lib.hid (siftDown_any R kx (b - a) a dk wr S.out.2 hds.out (by omega) (by omega))
      rw [HEC.out] at HC
      go_wp2_with fail
      refine HC.out.mono ?_
      rintro e w4 ⟨rfl, S4⟩
      go_wp2_with fail
      go_roundg kx
      case measure => omega
      case rel =>
        have hss : (siftDown lt (b - a) a kx dk).size = dk.size := size_siftDown lt _ _ _ _ _ (Nat.le_refl _)
        exact ⟨by simp, by omega, siftDown lt (b - a) a kx dk, (show Hid _ from hss.trans hds.out), (show Aside _ from SW.trans S.out S4.out), HE⟩
end Go.Proofs.YtpmihkhmijndaaaDoor.srt
