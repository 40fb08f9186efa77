/- sort.partialInsertionSort over a row of several cells (turned from the shelf's text). -/
import Derived.Test.YtpmihkhmijndaaaDoorSortKit
import Derived.Sort.WalkA6
namespace Go.Proofs.YtpmihkhmijndaaaDoor.srt
open Go.Shelf Go.RowKit Go.Lib Go.Sort
variable {α : Type} [Inhabited α] {blk N : Nat} {rv : Value} {lt : α → α → Bool} {J : World → Array α → Prop}

set_option maxHeartbeats 16000000 in
set_option maxRecDepth 1000000 in
theorem partialInsertionSort_any (R : Row blk N rv lt J) (a b : Nat) (d : Array α) (w : World) (hJ : J w d) (hd : d.size = N) (hab : a < b) (hb : b ≤ N) :
    Calls Tryd.prog 34 #[.iface 51 rv, .int .i64 (a : Int), .int .i64 (b : Int)] w fun e w' => e = .returned (.bool (Go.Sort.partialInsertionSort lt d a b).2) ∧ Aside (SW blk J w (Go.Sort.partialInsertionSort lt d a b).1 w') := by
  have hsz := R.small
  have S0 : Aside (SW blk J w d w) := SW.start hJ
  have HD0 := Lib.hid hd
  clear hJ hd
  go_enter Tryd.func34, Tryd.ntmps34
  go_wp2
  go_loopg [7, 8] 5 (fun g1 vi vs wr => ∃ (i s : Nat) (dk : Array α), vi = .int .i64 (i : Int) ∧ vs = .int .i64 (s : Int) ∧ s ≤ 5 ∧ 5 - s ≤ g1 ∧ a < i ∧ i ≤ b ∧ Hid (dk.size = N) ∧ Aside (SW blk J w dk wr) ∧ Hid (partialIns lt a b (5 - s) i dk = partialIns lt a b 5 (a + 1) d))
  case atStart => exact ⟨a + 1, 0, d, by go_num, rfl, by omega, by omega, by omega, by omega, HD0, S0, rfl⟩
  case round =>
    obtain ⟨i, s, dk, rfl, rfl, hs5, hg1, hai, hib, hsk, S, HO⟩ := hrel
    by_cases hs : s < 5
    · have hsz5 : (s : Int) < 5 := by omega
      go_wp2_with fail
      go_loopg [7] (b - i) (fun g2 vi wr2 => ∃ (kx : Nat), vi = .int .i64 (kx : Int) ∧ i ≤ kx ∧ kx ≤ b ∧ b - kx ≤ g2 ∧ Aside (SW blk J w dk wr2) ∧ Hid (scanSorted lt dk b kx = scanSorted lt dk b i))
      case atStart => exact ⟨i, rfl, Nat.le_refl _, hib, Nat.le_refl _, S, rfl⟩
      case round =>
        obtain ⟨kx, rfl, hik, hkb, hg2, SK, HSc⟩ := hrel
        clear S
        by_cases hkb' : kx < b
        · have hkz : (kx : Int) < (b : Int) := by omega
          cases hlv : lt dk[kx]! dk[kx - 1]! with
          | false =>
            have HL := Lib.hid (R.lessAt (w := w) (X := dk) kx (kx - 1) false hsk.out (by omega) (by omega) hlv)
            go_wp2_with fail
            refine (HL.out _ _ _ (by omega) (by omega) SK).mono ?_
            rintro e k1 ⟨rfl, SK1⟩
            go_wp2_with fail
            go_roundg (b - (kx + 1))
            case measure => omega
            case rel => exact ⟨kx + 1, by go_num, by omega, by omega, Nat.le_refl _, SK1, (show Hid _ from by rw [← HSc.out, scanSorted_go lt dk b kx hkb' hlv]; exact rfl)⟩
          | true =>
            have HL := Lib.hid (R.lessAt (w := w) (X := dk) kx (kx - 1) true hsk.out (by omega) (by omega) hlv)
            have HK : Hid (scanSorted lt dk b i = kx) := by show _ = _; rw [← HSc.out, scanSorted_stop lt dk b kx (Or.inr hlv)]
            have hkne : ((kx : Int) == (b : Int)) = false := beq_eq_false_iff_ne.2 (by omega)
            by_cases h50 : b - a < 50
            · have h50z : (b : Int) - (a : Int) < 50 := by omega
              go_wp2_with fail
              refine (HL.out _ _ _ (by omega) (by omega) SK).mono ?_
              rintro e k1 ⟨rfl, SK1⟩
              go_wp2_with fail
              have hv : Go.Sort.partialInsertionSort lt d a b = (dk, false) := by
                unfold Go.Sort.partialInsertionSort
                rw [← HO.out, pi_short lt a b s i dk hs (by rw [HK.out]; omega) h50]
              rw [hv]
              go_ret
              exact ⟨rfl, SK1⟩
            · have h50z : ¬ ((b : Int) - (a : Int) < 50) := by omega
              have HS1 := Lib.hid (R.swapAt (w := w) (X := dk) kx (kx - 1) hsk.out (by omega) (by omega))
              have hX1 : Hid ((swp dk kx (kx - 1)).size = N) := (size_swp _ _ _).trans hsk.out
              by_cases hka : kx - a ≥ 2
              · have hkaz : (2 : Int) ≤ (kx : Int) - (a : Int) := by omega
                go_wp2_with fail
                refine (HL.out _ _ _ (by omega) (by omega) SK).mono ?_
                rintro e k1 ⟨rfl, SK1⟩
                go_wp2_with fail
                refine (HS1.out _ _ _ (by omega) (by omega) SK1).mono ?_
                rintro e k2 ⟨rfl, SK2⟩
                go_wp2_with fail
                go_loopg [9] (kx - 1) (fun g3 vj wr3 => ∃ (j : Nat) (dj : Array α), vj = .int .i64 (j : Int) ∧ j ≤ kx - 1 ∧ j ≤ g3 ∧ Hid (dj.size = N) ∧ Aside (SW blk J w dj wr3) ∧ Hid (shiftDown lt j dj = shiftDown lt (kx - 1) (swp dk kx (kx - 1))))
                case atStart => exact ⟨kx - 1, swp dk kx (kx - 1), by congr 1; omega, Nat.le_refl _, Nat.le_refl _, hX1, SK2, rfl⟩
                case round =>
                  obtain ⟨j, dj, rfl, hjk, hg3, hsj, SJ, HDn⟩ := hrel
                  clear SK SK1 SK2 HL HS1
                  by_cases hj1 : 1 ≤ j
                  · have hj1z : (1 : Int) ≤ (j : Int) := by omega
                    cases hlv2 : lt dj[j]! dj[j - 1]! with
                    | true =>
                      have HL2 := Lib.hid (R.lessAt (w := w) (X := dj) j (j - 1) true hsj.out (by omega) (by omega) hlv2)
                      have HS2 := Lib.hid (R.swapAt (w := w) (X := dj) j (j - 1) hsj.out (by omega) (by omega))
                      go_wp2_with fail
                      refine (HL2.out _ _ _ (by omega) (by omega) SJ).mono ?_
                      rintro e j1 ⟨rfl, SJ1⟩
                      go_wp2_with fail
                      refine (HS2.out _ _ _ (by omega) (by omega) SJ1).mono ?_
                      rintro e j2 ⟨rfl, SJ2⟩
                      go_wp2_with fail
                      go_roundg (j - 1)
                      case measure => omega
                      case rel => exact ⟨j - 1, swp dj j (j - 1), by congr 1; omega, by omega, Nat.le_refl _, (show Hid _ from (size_swp _ _ _).trans hsj.out), SJ2, (show Hid _ from by rw [← HDn.out, shiftDown_go lt j dj hj1 hlv2]; exact rfl)⟩
                    | false =>
                      have HL2 := Lib.hid (R.lessAt (w := w) (X := dj) j (j - 1) false hsj.out (by omega) (by omega) hlv2)
                      have HD : Hid (fixDown lt a kx (swp dk kx (kx - 1)) = dj) := by show _ = _; unfold fixDown; rw [if_pos hka, ← HDn.out, shiftDown_stop lt j dj (Or.inr hlv2)]
                      by_cases hbk : b - kx ≥ 2
                      · have hbkz : (2 : Int) ≤ (b : Int) - (kx : Int) := by omega
                        go_wp2_with fail
                        refine (HL2.out _ _ _ (by omega) (by omega) SJ).mono ?_
                        rintro e j1 ⟨rfl, SJ1⟩
                        go_wp2_with fail
                        go_loopg [10] (b - (kx + 1)) (fun g4 vj wr4 => ∃ (ju : Nat) (du : Array α), vj = .int .i64 (ju : Int) ∧ kx + 1 ≤ ju ∧ ju ≤ b ∧ b - ju ≤ g4 ∧ Hid (du.size = N) ∧ Aside (SW blk J w du wr4) ∧ Hid (shiftUp lt b ju du = shiftUp lt b (kx + 1) dj))
                        case atStart => exact ⟨kx + 1, dj, by go_num, Nat.le_refl _, by omega, Nat.le_refl _, hsj, SJ1, rfl⟩
                        case round =>
                          obtain ⟨ju, du, rfl, hkj, hjb, hg4, hsu, SU, HU⟩ := hrel
                          by_cases hjb' : ju < b
                          · have hjz : (ju : Int) < (b : Int) := by omega
                            cases hlv3 : lt du[ju]! du[ju - 1]! with
                            | true =>
                              have HL3 := Lib.hid (R.lessAt (w := w) (X := du) ju (ju - 1) true hsu.out (by omega) (by omega) hlv3)
                              have HS3 := Lib.hid (R.swapAt (w := w) (X := du) ju (ju - 1) hsu.out (by omega) (by omega))
                              go_wp2_with fail
                              refine (HL3.out _ _ _ (by omega) (by omega) SU).mono ?_
                              rintro e u1 ⟨rfl, SU1⟩
                              go_wp2_with fail
                              refine (HS3.out _ _ _ (by omega) (by omega) SU1).mono ?_
                              rintro e u2 ⟨rfl, SU2⟩
                              go_wp2_with fail
                              go_roundg (b - (ju + 1))
                              case measure => omega
                              case rel => exact ⟨ju + 1, swp du ju (ju - 1), by go_num, by omega, by omega, Nat.le_refl _, (show Hid _ from (size_swp _ _ _).trans hsu.out), SU2, (show Hid _ from by rw [← HU.out, shiftUp_go lt b ju du hjb' hlv3]; exact rfl)⟩
                            | false =>
                              have HL3 := Lib.hid (R.lessAt (w := w) (X := du) ju (ju - 1) false hsu.out (by omega) (by omega) hlv3)
                              go_wp2_with fail
                              refine (HL3.out _ _ _ (by omega) (by omega) SU).mono ?_
                              rintro e u1 ⟨rfl, SU1⟩
                              go_wp2_with fail
                              go_roundg (5 - (s + 1))
                              case measure => omega
                              case rel => exact ⟨kx, s + 1, du, rfl, by go_num, by omega, Nat.le_refl _, by omega, by omega, hsu, SU1, (show Hid _ from by rw [← HO.out, pi_go lt a b s i kx dk hs HK.out (by omega) h50, HD.out, show fixUp lt b kx dj = du from by unfold fixUp; rw [if_pos hbk, ← HU.out, shiftUp_stop lt b ju du (Or.inr hlv3)]]; exact rfl)⟩
                          · have hjz : ¬ (ju : Int) < (b : Int) := by omega
                            go_wp2_with fail
                            go_roundg (5 - (s + 1))
                            case measure => omega
                            case rel => exact ⟨kx, s + 1, du, rfl, by go_num, by omega, Nat.le_refl _, by omega, by omega, hsu, SU, (show Hid _ from by rw [← HO.out, pi_go lt a b s i kx dk hs HK.out (by omega) h50, HD.out, show fixUp lt b kx dj = du from by unfold fixUp; rw [if_pos hbk, ← HU.out, shiftUp_stop lt b ju du (Or.inl hjb')]]; exact rfl)⟩
                      · have hbkz : ¬ (2 : Int) ≤ (b : Int) - (kx : Int) := by omega
                        go_wp2_with fail
                        refine (HL2.out _ _ _ (by omega) (by omega) SJ).mono ?_
                        rintro e j1 ⟨rfl, SJ1⟩
                        go_wp2_with fail
                        go_roundg (5 - (s + 1))
                        case measure => omega
                        case rel => exact ⟨kx, s + 1, dj, rfl, by go_num, by omega, Nat.le_refl _, by omega, by omega, hsj, SJ1, (show Hid _ from by rw [← HO.out, pi_go lt a b s i kx dk hs HK.out (by omega) h50, HD.out, show fixUp lt b kx dj = dj from by unfold fixUp; rw [if_neg hbk]]; exact rfl)⟩
                  · have hj1z : ¬ (1 : Int) ≤ (j : Int) := by omega
                    have HD : Hid (fixDown lt a kx (swp dk kx (kx - 1)) = dj) := by show _ = _; unfold fixDown; rw [if_pos hka, ← HDn.out, shiftDown_stop lt j dj (Or.inl (by omega))]
                    by_cases hbk : b - kx ≥ 2
                    · have hbkz : (2 : Int) ≤ (b : Int) - (kx : Int) := by omega
                      go_wp2_with fail
                      go_loopg [10] (b - (kx + 1)) (fun g4 vj wr4 => ∃ (ju : Nat) (du : Array α), vj = .int .i64 (ju : Int) ∧ kx + 1 ≤ ju ∧ ju ≤ b ∧ b - ju ≤ g4 ∧ Hid (du.size = N) ∧ Aside (SW blk J w du wr4) ∧ Hid (shiftUp lt b ju du = shiftUp lt b (kx + 1) dj))
                      case atStart => exact ⟨kx + 1, dj, by go_num, Nat.le_refl _, by omega, Nat.le_refl _, hsj, SJ, rfl⟩
                      case round =>
                        obtain ⟨ju, du, rfl, hkj, hjb, hg4, hsu, SU, HU⟩ := hrel
                        by_cases hjb' : ju < b
                        · have hjz : (ju : Int) < (b : Int) := by omega
                          cases hlv3 : lt du[ju]! du[ju - 1]! with
                          | true =>
                            have HL3 := Lib.hid (R.lessAt (w := w) (X := du) ju (ju - 1) true hsu.out (by omega) (by omega) hlv3)
                            have HS3 := Lib.hid (R.swapAt (w := w) (X := du) ju (ju - 1) hsu.out (by omega) (by omega))
                            go_wp2_with fail
                            refine (HL3.out _ _ _ (by omega) (by omega) SU).mono ?_
                            rintro e u1 ⟨rfl, SU1⟩
                            go_wp2_with fail
                            refine (HS3.out _ _ _ (by omega) (by omega) SU1).mono ?_
                            rintro e u2 ⟨rfl, SU2⟩
                            go_wp2_with fail
                            go_roundg (b - (ju + 1))
                            case measure => omega
                            case rel => exact ⟨ju + 1, swp du ju (ju - 1), by go_num, by omega, by omega, Nat.le_refl _, (show Hid _ from (size_swp _ _ _).trans hsu.out), SU2, (show Hid _ from by rw [← HU.out, shiftUp_go lt b ju du hjb' hlv3]; exact rfl)⟩
                          | false =>
                            have HL3 := Lib.hid (R.lessAt (w := w) (X := du) ju (ju - 1) false hsu.out (by omega) (by omega) hlv3)
                            go_wp2_with fail
                            refine (HL3.out _ _ _ (by omega) (by omega) SU).mono ?_
                            rintro e u1 ⟨rfl, SU1⟩
                            go_wp2_with fail
                            go_roundg (5 - (s + 1))
                            case measure => omega
                            case rel => exact ⟨kx, s + 1, du, rfl, by go_num, by omega, Nat.le_refl _, by omega, by omega, hsu, SU1, (show Hid _ from by rw [← HO.out, pi_go lt a b s i kx dk hs HK.out (by omega) h50, HD.out, show fixUp lt b kx dj = du from by unfold fixUp; rw [if_pos hbk, ← HU.out, shiftUp_stop lt b ju du (Or.inr hlv3)]]; exact rfl)⟩
                        · have hjz : ¬ (ju : Int) < (b : Int) := by omega
                          go_wp2_with fail
                          go_roundg (5 - (s + 1))
                          case measure => omega
                          case rel => exact ⟨kx, s + 1, du, rfl, by go_num, by omega, Nat.le_refl _, by omega, by omega, hsu, SU, (show Hid _ from by rw [← HO.out, pi_go lt a b s i kx dk hs HK.out (by omega) h50, HD.out, show fixUp lt b kx dj = du from by unfold fixUp; rw [if_pos hbk, ← HU.out, shiftUp_stop lt b ju du (Or.inl hjb')]]; exact rfl)⟩
                    · have hbkz : ¬ (2 : Int) ≤ (b : Int) - (kx : Int) := by omega
                      go_wp2_with fail
                      go_roundg (5 - (s + 1))
                      case measure => omega
                      case rel => exact ⟨kx, s + 1, dj, rfl, by go_num, by omega, Nat.le_refl _, by omega, by omega, hsj, SJ, (show Hid _ from by rw [← HO.out, pi_go lt a b s i kx dk hs HK.out (by omega) h50, HD.out, show fixUp lt b kx dj = dj from by unfold fixUp; rw [if_neg hbk]]; exact rfl)⟩
              · have hkaz : ¬ (2 : Int) ≤ (kx : Int) - (a : Int) := by omega
                have HD : Hid (fixDown lt a kx (swp dk kx (kx - 1)) = (swp dk kx (kx - 1))) := by show _ = _; unfold fixDown; rw [if_neg hka]
                by_cases hbk : b - kx ≥ 2
                · have hbkz : (2 : Int) ≤ (b : Int) - (kx : Int) := by omega
                  go_wp2_with fail
                  refine (HL.out _ _ _ (by omega) (by omega) SK).mono ?_
                  rintro e k1 ⟨rfl, SK1⟩
                  go_wp2_with fail
                  refine (HS1.out _ _ _ (by omega) (by omega) SK1).mono ?_
                  rintro e k2 ⟨rfl, SK2⟩
                  go_wp2_with fail
                  go_loopg [10] (b - (kx + 1)) (fun g4 vj wr4 => ∃ (ju : Nat) (du : Array α), vj = .int .i64 (ju : Int) ∧ kx + 1 ≤ ju ∧ ju ≤ b ∧ b - ju ≤ g4 ∧ Hid (du.size = N) ∧ Aside (SW blk J w du wr4) ∧ Hid (shiftUp lt b ju du = shiftUp lt b (kx + 1) (swp dk kx (kx - 1))))
                  case atStart => exact ⟨kx + 1, (swp dk kx (kx - 1)), by go_num, Nat.le_refl _, by omega, Nat.le_refl _, hX1, SK2, rfl⟩
                  case round =>
                    obtain ⟨ju, du, rfl, hkj, hjb, hg4, hsu, SU, HU⟩ := hrel
                    by_cases hjb' : ju < b
                    · have hjz : (ju : Int) < (b : Int) := by omega
                      cases hlv3 : lt du[ju]! du[ju - 1]! with
                      | true =>
                        have HL3 := Lib.hid (R.lessAt (w := w) (X := du) ju (ju - 1) true hsu.out (by omega) (by omega) hlv3)
                        have HS3 := Lib.hid (R.swapAt (w := w) (X := du) ju (ju - 1) hsu.out (by omega) (by omega))
                        go_wp2_with fail
                        refine (HL3.out _ _ _ (by omega) (by omega) SU).mono ?_
                        rintro e u1 ⟨rfl, SU1⟩
                        go_wp2_with fail
                        refine (HS3.out _ _ _ (by omega) (by omega) SU1).mono ?_
                        rintro e u2 ⟨rfl, SU2⟩
                        go_wp2_with fail
                        go_roundg (b - (ju + 1))
                        case measure => omega
                        case rel => exact ⟨ju + 1, swp du ju (ju - 1), by go_num, by omega, by omega, Nat.le_refl _, (show Hid _ from (size_swp _ _ _).trans hsu.out), SU2, (show Hid _ from by rw [← HU.out, shiftUp_go lt b ju du hjb' hlv3]; exact rfl)⟩
                      | false =>
                        have HL3 := Lib.hid (R.lessAt (w := w) (X := du) ju (ju - 1) false hsu.out (by omega) (by omega) hlv3)
                        go_wp2_with fail
                        refine (HL3.out _ _ _ (by omega) (by omega) SU).mono ?_
                        rintro e u1 ⟨rfl, SU1⟩
                        go_wp2_with fail
                        go_roundg (5 - (s + 1))
                        case measure => omega
                        case rel => exact ⟨kx, s + 1, du, rfl, by go_num, by omega, Nat.le_refl _, by omega, by omega, hsu, SU1, (show Hid _ from by rw [← HO.out, pi_go lt a b s i kx dk hs HK.out (by omega) h50, HD.out, show fixUp lt b kx (swp dk kx (kx - 1)) = du from by unfold fixUp; rw [if_pos hbk, ← HU.out, shiftUp_stop lt b ju du (Or.inr hlv3)]]; exact rfl)⟩
                    · have hjz : ¬ (ju : Int) < (b : Int) := by omega
                      go_wp2_with fail
                      go_roundg (5 - (s + 1))
                      case measure => omega
                      case rel => exact ⟨kx, s + 1, du, rfl, by go_num, by omega, Nat.le_refl _, by omega, by omega, hsu, SU, (show Hid _ from by rw [← HO.out, pi_go lt a b s i kx dk hs HK.out (by omega) h50, HD.out, show fixUp lt b kx (swp dk kx (kx - 1)) = du from by unfold fixUp; rw [if_pos hbk, ← HU.out, shiftUp_stop lt b ju du (Or.inl hjb')]]; exact rfl)⟩
                · exfalso; omega
        · obtain rfl : kx = b := by omega
          have hkz : ¬ (kx : Int) < (kx : Int) := by omega
          go_wp2_with fail
          have hv : Go.Sort.partialInsertionSort lt d a kx = (dk, true) := by
            unfold Go.Sort.partialInsertionSort
            rw [← HO.out, pi_true lt a kx s i dk hs (by rw [← HSc.out, scanSorted_stop lt dk kx kx (Or.inl (by omega))])]
          rw [hv]
          go_ret
          exact ⟨rfl, SK⟩
    · obtain rfl : s = 5 := by omega
      go_wp2_with fail
      have hv : Go.Sort.partialInsertionSort lt d a b = (dk, false) := by
        unfold Go.Sort.partialInsertionSort
        rw [← HO.out, pi_end]
      rw [hv]
      go_ret
      exact ⟨rfl, S⟩
end Go.Proofs.YtpmihkhmijndaaaDoor.srt
