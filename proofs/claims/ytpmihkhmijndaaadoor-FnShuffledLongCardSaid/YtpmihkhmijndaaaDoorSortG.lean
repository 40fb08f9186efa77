/- sort.pdqsort and sort.Sort over a row of several cells (turned from the shelf's texts): the row holds a sorted permutation. -/
import Derived.Test.YtpmihkhmijndaaaDoorSortKit
import Derived.Test.YtpmihkhmijndaaaDoorSortB
import Derived.Test.YtpmihkhmijndaaaDoorSortC
import Derived.Test.YtpmihkhmijndaaaDoorSortD
import Derived.Test.YtpmihkhmijndaaaDoorSortE
import Derived.Test.YtpmihkhmijndaaaDoorSortF
import Derived.Shelf.GgSortFunc.Pdq
namespace Go.Proofs.YtpmihkhmijndaaaDoor.srt
open Go.Shelf Go.RowKit Go.Lib Go.Sort
variable {α : Type} [Inhabited α] {blk N : Nat} {rv : Value} {lt : α → α → Bool} {J : World → Array α → Prop}

set_option maxHeartbeats 12800000 in
set_option maxRecDepth 1000000 in
theorem pdqsort_any (R : Row blk N rv lt J) (hO : SWO lt) :
    ∀ (M a b limit : Nat) (d : Array α) (w : World), b - a < M → J w d → d.size = N → a ≤ b → b ≤ N → limit < 4611686018427387904 → Go.Sort.Below lt a b d →
    Calls Tryd.prog 25 #[.iface 51 rv, .int .i64 (a : Int), .int .i64 (b : Int), .int .i64 (limit : Int)] w fun e w' => e = .returned (.tuple #[]) ∧ Aside (SW blk J w (pdq lt d a b limit true true) w') := by
  have hsz := R.small
  intro M
  induction M with
  | zero => intro _ _ _ _ _ h; exact absurd h (Nat.not_lt_zero _)
  | succ M ih0 =>
    intro a b limit d w hN hJ hd hab hb hlimit hBel0
    have ih := Lib.hid ih0
    have S0 : Aside (SW blk J w d w) := SW.start hJ
    have HD0 := Lib.hid hd
    have HBE := Lib.hid hBel0
    clear ih0 hJ hd hBel0
    go_enter Tryd.func25, Tryd.ntmps25
    go_wp2
    go_loopg [1, 2, 3, 8, 9] (b - a) (fun k s1 s2 s3 s8 s9 wr => ∃ (a' b' lim : Nat) (wb wp : Bool) (dk : Array α), s1 = .int .i64 (a' : Int) ∧ s2 = .int .i64 (b' : Int) ∧ s3 = .int .i64 (lim : Int) ∧ s8 = .bool wb ∧ s9 = .bool wp ∧
      a' ≤ b' ∧ b' ≤ N ∧ b' - a' ≤ k ∧ k ≤ b - a ∧ lim ≤ limit ∧ Hid (dk.size = N) ∧ Hid (Go.Sort.Below lt a' b' dk) ∧ Aside (SW blk J w dk wr) ∧ Aside (pdq lt dk a' b' lim wb wp = pdq lt d a b limit true true))
    case atStart => exact ⟨a, b, limit, true, true, d, rfl, rfl, rfl, rfl, rfl, hab, hb, Nat.le_refl _, Nat.le_refl _, Nat.le_refl _, HD0, HBE, S0, rfl⟩
    case round =>
      obtain ⟨a', b', lim, wb, wp, dk, rfl, rfl, rfl, rfl, rfl, hab', hb', hk, hkN, hlim, HDS, hBel, hAt, A⟩ := hrel
      have hds := HDS.out
      by_cases h12 : b' - a' ≤ 12
      · have h12z : (b' : Int) - (a' : Int) ≤ 12 := by omega
        have HC := Lib.hid (insertionSort_any R a' b' dk wr hAt.out.2 hds hab' hb')
        clear hds
        go_wp2_with fail
        refine HC.out.mono ?_
        rintro e w1 ⟨rfl, hw1⟩
        go_wp2_with fail
        (try simp only [Exit.inBlock, Exit.then]); refine bodyPost_ret (results_none rfl _ _ _) rfl ?_
        refine ⟨rfl, ?_⟩
        rw [← A.out, pdq_small h12]
        exact SW.trans hAt.out hw1.out
      · have h12z : ¬ ((b' : Int) - (a' : Int) ≤ 12) := by omega
        by_cases hl0 : lim = 0
        · subst hl0
          have HC := Lib.hid (heapSort_any R a' b' dk wr hAt.out.2 hds hab' hb')
          clear hds
          go_wp2_with fail
          refine HC.out.mono ?_
          rintro e w1 ⟨rfl, hw1⟩
          go_wp2_with fail
          (try simp only [Exit.inBlock, Exit.then]); refine bodyPost_ret (results_none rfl _ _ _) rfl ?_
          refine ⟨rfl, ?_⟩
          rw [← A.out, pdq_heap h12 rfl]
          exact SW.trans hAt.out hw1.out
        · have hl0z : ¬ ((lim : Int) = 0) := by omega
          obtain ⟨s1, B1, hc1, s2, B2, hpv, s3, B3⟩ := rd_facts (lt := lt) (limit := lim) (wb := wb) (wp := wp) hO partialInsertionSort_holds reverseRange_holds (show a' < b' by omega) (show b' ≤ dk.size by omega) hBel.out
          have z1 := s1.trans hds
          have z2 := s2.trans hds
          have z3 := s3.trans hds
          have HZ1 := Lib.hid z1
          have HZ2 := Lib.hid z2
          have HZ3 := Lib.hid z3
          have HB3 := Lib.hid B3
          clear z1 z2 z3 s1 s2 s3 B1 B2 B3
          -- if !wasBalanced: breakPatterns, limit--
          go_upto_if 35 with fail
          go_cut [3] from 19 (fun s3 wc => s3 = .int .i64 ((rd lt dk a' b' lim wb wp).lim : Int) ∧ Aside (SW blk J w (rd lt dk a' b' lim wb wp).d1 wc))
          case first =>
            cases wb
            · have HC := Lib.hid (breakPatterns_any R a' b' dk wr hAt.out.2 hds hab' hb')
              clear hds
              go_wp2_with fail
              refine HC.out.mono ?_
              rintro e w1 ⟨rfl, hw1⟩
              go_wp2_with fail
              go_meet
              case rel =>
                refine ⟨?_, SW.trans hAt.out hw1.out⟩
                show Value.int .i64 ((lim : Int) - 1) = Value.int .i64 ((lim - 1 : Nat) : Int)
                congr 1
                omega
            · clear hds
              go_wp2_with fail
              go_meet
              case rel => exact ⟨rfl, hAt⟩
          case rest =>
            obtain ⟨rfl, hAt1⟩ := hcut
            clear hds
            have hc17 : Calls Tryd.prog 32 #[.iface 51 rv, .int .i64 (a' : Int), .int .i64 (b' : Int)] wc fun e w' => e = .returned (.tuple #[.int .i64 ((rd lt dk a' b' lim wb wp).c.1 : Int), .int .i64 (hintCode (rd lt dk a' b' lim wb wp).c.2)]) ∧ RowKit.Below wc.heap.size wc w' :=
              choosePivot_any R a' b' (rd lt dk a' b' lim wb wp).d1 wc hAt1.out.2 HZ1.out (by omega) hb'
            have HC17 := Lib.hid hc17
            clear hc17
            go_upto_if 50 with (go_at_call 32; refine HC17.out.mono ?_; rintro e w2 ⟨rfl, hw2⟩)
            have hAt2 : Aside (SW blk J w (rd lt dk a' b' lim wb wp).d1 w2) := SW.same R hAt1.out hw2
            clear hw2 HC17
            -- if hint == decreasingHint: reverseRange
            go_cut [11, 12] from 19 (fun s11 s12 wc => s11 = .int .i64 ((rd lt dk a' b' lim wb wp).pivot : Int) ∧ s12 = .int .i64 (hintCode (rd lt dk a' b' lim wb wp).hint) ∧ Aside (SW blk J w (rd lt dk a' b' lim wb wp).d2 wc))
            case first =>
              by_cases hh : (rd lt dk a' b' lim wb wp).c.2 = .decreasing
              · have hcode : hintCode (rd lt dk a' b' lim wb wp).c.2 = 2 := by rw [hh]; rfl
                obtain ⟨e2, epv, eht⟩ := rd_dec hh
                have E2 := Lib.hid e2
                have EPV := Lib.hid epv
                have EHT := Lib.hid eht
                have HC18 := Lib.hid (reverseRange_any R a' b' (rd lt dk a' b' lim wb wp).d1 w2 hAt2.out.2 HZ1.out hab' hb')
                clear hh e2 epv eht
                go_wp2_with fail
                refine HC18.out.mono ?_
                rintro e w3 ⟨rfl, hw3⟩
                go_wp2_with fail
                go_meet
                case rel =>
                  refine ⟨?_, by rw [EHT.out]; rfl, by rw [E2.out]; exact SW.trans hAt2.out hw3.out⟩
                  rw [EPV.out]
                  congr 1
                  omega
              · have hcode : ¬ (hintCode (rd lt dk a' b' lim wb wp).c.2 = 2) := fun h => hh (hintCode_two h)
                obtain ⟨e2, epv, eht⟩ := rd_not hh
                have E2 := Lib.hid e2
                have EPV := Lib.hid epv
                have EHT := Lib.hid eht
                clear hh e2 epv eht
                go_wp2_with fail
                go_meet
                case rel => exact ⟨by rw [EPV.out], by rw [EHT.out], by rw [E2.out]; exact hAt2⟩
            case rest =>
              obtain ⟨rfl, rfl, hAt3⟩ := hcut
              go_upto_region 15 with fail
              go_cut [12, 68] from 19 (fun s12 s68 wx => s12 = .int .i64 (hintCode (rd lt dk a' b' lim wb wp).hint) ∧ s68 = .bool (wb && wp && decide ((rd lt dk a' b' lim wb wp).hint = .increasing)) ∧ wx = wc)
              case first =>
                cases wb <;> cases wp <;> cases hh3 : (rd lt dk a' b' lim _ _).hint <;>
                  (have hcode3 := congrArg hintCode hh3
                   simp only [hintCode] at hcode3
                   go_wp2_with fail
                   go_meet
                   exact ⟨by simp [hh3, hintCode], by simp [hh3, hintCode], rfl⟩)
              case rest =>
                obtain ⟨rfl, rfl, rfl⟩ := hcut
                go_upto_if 68 with fail
                go_cut [] from 19 (fun wx => (rd lt dk a' b' lim wb wp).pi.2 = false ∧ Aside (SW blk J w (rd lt dk a' b' lim wb wp).pi.1 wx))
                case first =>
                  cases h68 : (wb && wp && decide ((rd lt dk a' b' lim wb wp).hint = .increasing))
                  · have epi := Lib.hid (rd_pi_no h68)
                    go_wp2_with fail
                    go_meet
                    case rel => exact ⟨by rw [epi.out], by rw [epi.out]; exact hAt3⟩
                  · have epi := rd_pi_yes h68
                    have hc19 := partialInsertionSort_any R a' b' (rd lt dk a' b' lim wb wp).d2 wc hAt3.out.2 HZ2.out (by omega) hb'
                    rw [← epi] at hc19
                    have HC19 := Lib.hid hc19
                    have EPI := Lib.hid epi
                    clear hc19 epi
                    go_wp2_with fail
                    refine HC19.out.mono ?_
                    rintro e w4 ⟨rfl, hw4⟩
                    go_wp2_with fail
                    all_goals first
                      | (have hp2 : (rd lt dk a' b' lim wb wp).pi.2 = false := by assumption
                         go_meet
                         exact ⟨hp2, SW.trans hAt3.out hw4.out⟩)
                      | (have hp2 : (rd lt dk a' b' lim wb wp).pi.2 = true := by assumption
                         (try simp only [Exit.inBlock, Exit.then]); refine bodyPost_ret (results_none rfl _ _ _) rfl ?_
                         refine ⟨rfl, ?_⟩
                         rw [← A.out, pdq_done h12 hl0 hp2]
                         exact SW.trans hAt3.out hw4.out)
                case rest =>
                  obtain ⟨hp2, hAt5⟩ := hcut
                  have HP2 := Lib.hid hp2
                  clear hp2
                  go_upto_region 17 with fail
                  go_cut [82] from 19 (fun s82 wx => s82 = .bool (decide (a' > 0) && !lt (rd lt dk a' b' lim wb wp).pi.1[a' - 1]! (rd lt dk a' b' lim wb wp).pi.1[(rd lt dk a' b' lim wb wp).pivot]!) ∧ Aside (SW blk J w (rd lt dk a' b' lim wb wp).pi.1 wx))
                  case first =>
                    rcases Nat.eq_zero_or_pos a' with ha0 | ha0
                    · have ha0z : decide ((a' : Int) > 0) = false := decide_eq_false (by omega)
                      go_wp2_with fail
                      go_meet
                      case rel => exact ⟨by simp [ha0], hAt5⟩
                    · have ha0z : (a' : Int) > 0 := by omega
                      cases hlv : lt (rd lt dk a' b' lim wb wp).pi.1[a' - 1]! (rd lt dk a' b' lim wb wp).pi.1[(rd lt dk a' b' lim wb wp).pivot]!
                      · have HL := Lib.hid (R.lessAt (w := w) (X := (rd lt dk a' b' lim wb wp).pi.1) (a' - 1) (rd lt dk a' b' lim wb wp).pivot false HZ3.out (by omega) (by omega) hlv)
                        go_wp2_with fail
                        refine (HL.out _ _ _ (by omega) (by omega) hAt5).mono ?_
                        rintro e w6 ⟨rfl, hAt6⟩
                        go_wp2_with fail
                        go_meet
                        exact ⟨by simp [ha0, hlv], hAt6⟩
                      · have HL := Lib.hid (R.lessAt (w := w) (X := (rd lt dk a' b' lim wb wp).pi.1) (a' - 1) (rd lt dk a' b' lim wb wp).pivot true HZ3.out (by omega) (by omega) hlv)
                        go_wp2_with fail
                        refine (HL.out _ _ _ (by omega) (by omega) hAt5).mono ?_
                        rintro e w6 ⟨rfl, hAt6⟩
                        go_wp2_with fail
                        go_meet
                        exact ⟨by simp [hlv], hAt6⟩
                  case rest =>
                    obtain ⟨rfl, hAt6⟩ := hcut
                    have hz3 := HZ3.out
                    cases h87 : (decide (a' > 0) && !lt (rd lt dk a' b' lim wb wp).pi.1[a' - 1]! (rd lt dk a' b' lim wb wp).pi.1[(rd lt dk a' b' lim wb wp).pivot]!)
                    · obtain ⟨mid, ap, d4, hx⟩ : ∃ mid ap d4, partition lt (rd lt dk a' b' lim wb wp).pi.1 a' b' (rd lt dk a' b' lim wb wp).pivot = (mid, ap, d4) := ⟨(partition lt (rd lt dk a' b' lim wb wp).pi.1 a' b' (rd lt dk a' b' lim wb wp).pivot).1, (partition lt (rd lt dk a' b' lim wb wp).pi.1 a' b' (rd lt dk a' b' lim wb wp).pivot).2.1, (partition lt (rd lt dk a' b' lim wb wp).pi.1 a' b' (rd lt dk a' b' lim wb wp).pivot).2.2, rfl⟩
                      obtain ⟨r1, r2, r3, r4, r5, r6, r7⟩ := round_part hO (partition_holds lt) hpv.1 hpv.2 (show b' ≤ (rd lt dk a' b' lim wb wp).pi.1.size by omega) HB3.out hx
                      have hc22 := partition_any R a' b' (rd lt dk a' b' lim wb wp).pivot (rd lt dk a' b' lim wb wp).pi.1 wc hAt6.out.2 hz3 hpv.1 hpv.2 hb'
                      rw [hx] at hc22
                      have HC22 := Lib.hid hc22
                      have X : Aside (partition lt (rd lt dk a' b' lim wb wp).pi.1 a' b' (rd lt dk a' b' lim wb wp).pivot = (mid, ap, d4)) := hx
                      have hs4 : Hid (d4.size = N) := r3.trans hz3
                      have R4 := Lib.hid r4
                      have R5 := Lib.hid r5
                      have R6 := Lib.hid r6
                      have R7 := Lib.hid r7
                      have H87 := Lib.hid h87
                      clear hx hc22 hz3 r3 r4 r5 r6 r7
                      go_upto_if 108 with (go_at_call 36; refine HC22.out.mono ?_; rintro e w7 ⟨rfl, hw7⟩)
                      have hAt7 : Aside (SW blk J w d4 w7) := SW.trans hAt6.out hw7.out
                      clear hw7 HC22
                      by_cases h4 : mid - a' < b' - mid
                      · have h4z : (mid : Int) - (a' : Int) < (b' : Int) - (mid : Int) := by omega
                        have hih := Lib.hid (ih.out a' mid (rd lt dk a' b' lim wb wp).lim d4 w7 (by omega) hAt7.out.2 hs4.out (by omega) (by omega) (Nat.lt_of_le_of_lt (Nat.le_trans rd_lim_le hlim) hlimit) R4.out)
                        obtain ⟨pL, sL⟩ := pdq_sorts lt hO d4 a' mid (rd lt dk a' b' lim wb wp).lim true true (by omega) (by rw [hs4.out]; omega) R4.out
                        have PL := Lib.hid pL
                        have SL := Lib.hid sL
                        clear pL sL
                        go_wp2_with fail
                        refine hih.out.mono ?_
                        rintro e w8 ⟨rfl, hw8⟩
                        go_wp2_with fail
                        go_roundg (b' - (mid + 1))
                        case measure => omega
                        case rel =>
                          refine ⟨mid + 1, b', (rd lt dk a' b' lim wb wp).lim, decide (mid - a' ≥ (b' - a') / 8), ap, pdq lt d4 a' mid (rd lt dk a' b' lim wb wp).lim true true, by simp, rfl, rfl, ?_, rfl, by omega, by omega, Nat.le_refl _, by omega, Nat.le_trans rd_lim_le hlim, (show Hid _ from PL.out.1.trans hs4.out), (show Hid _ from (R6.out _ PL.out SL.out).1), (show Aside _ from SW.trans hAt7.out hw8.out), ?_⟩
                          · exact congrArg Value.bool (eighth (by omega) (by omega))
                          · show _ = _
                            rw [← A.out, pdq_left h12 hl0 HP2.out H87.out (by rw [X.out]; exact ⟨r1, r2⟩) (by rw [X.out]; exact h4), X.out]
                      · have h4z : ¬ ((mid : Int) - (a' : Int) < (b' : Int) - (mid : Int)) := by omega
                        have hih0 := ih.out (mid + 1) b' (rd lt dk a' b' lim wb wp).lim d4 w7 (by omega) hAt7.out.2 hs4.out (by omega) (by omega) (Nat.lt_of_le_of_lt (Nat.le_trans rd_lim_le hlim) hlimit) R5.out
                        rw [show ((mid + 1 : Nat) : Int) = (mid : Int) + 1 by omega] at hih0
                        have hih := Lib.hid hih0
                        obtain ⟨pL, sL⟩ := pdq_sorts lt hO d4 (mid + 1) b' (rd lt dk a' b' lim wb wp).lim true true (by omega) (by rw [hs4.out]; omega) R5.out
                        have PL := Lib.hid pL
                        have SL := Lib.hid sL
                        clear pL sL hih0
                        go_wp2_with fail
                        refine hih.out.mono ?_
                        rintro e w8 ⟨rfl, hw8⟩
                        go_wp2_with fail
                        go_roundg (mid - a')
                        case measure => omega
                        case rel =>
                          refine ⟨a', mid, (rd lt dk a' b' lim wb wp).lim, decide (b' - mid ≥ (b' - a') / 8), ap, pdq lt d4 (mid + 1) b' (rd lt dk a' b' lim wb wp).lim true true, rfl, rfl, rfl, ?_, rfl, by omega, by omega, Nat.le_refl _, by omega, Nat.le_trans rd_lim_le hlim, (show Hid _ from PL.out.1.trans hs4.out), (show Hid _ from (R7.out _ PL.out SL.out).1), (show Aside _ from SW.trans hAt7.out hw8.out), ?_⟩
                          · exact congrArg Value.bool (eighth (by omega) (by omega))
                          · show _ = _
                            rw [← A.out, pdq_right h12 hl0 HP2.out H87.out (by rw [X.out]; exact ⟨r1, r2⟩) (by rw [X.out]; exact h4), X.out]
                    · have h87' := h87
                      simp only [Bool.and_eq_true, decide_eq_true_eq, Bool.not_eq_true'] at h87'
                      obtain ⟨mid, d4, hx⟩ : ∃ mid d4, partitionEqual lt (rd lt dk a' b' lim wb wp).pi.1 a' b' (rd lt dk a' b' lim wb wp).pivot = (mid, d4) := ⟨(partitionEqual lt (rd lt dk a' b' lim wb wp).pi.1 a' b' (rd lt dk a' b' lim wb wp).pivot).1, (partitionEqual lt (rd lt dk a' b' lim wb wp).pi.1 a' b' (rd lt dk a' b' lim wb wp).pivot).2, rfl⟩
                      obtain ⟨r1, r2, r3, r4, _⟩ := round_eq hO (partitionEqual_holds lt) h87'.1 hpv.1 hpv.2 (show b' ≤ (rd lt dk a' b' lim wb wp).pi.1.size by omega) HB3.out h87'.2 hx
                      have hc21 := partitionEqual_any R a' b' (rd lt dk a' b' lim wb wp).pivot (rd lt dk a' b' lim wb wp).pi.1 wc hAt6.out.2 hz3 hpv.1 hpv.2 hb'
                      rw [hx] at hc21
                      have HC21 := Lib.hid hc21
                      have X : Aside (partitionEqual lt (rd lt dk a' b' lim wb wp).pi.1 a' b' (rd lt dk a' b' lim wb wp).pivot = (mid, d4)) := hx
                      have hs4 : Hid (d4.size = N) := r3.trans hz3
                      have R4 := Lib.hid r4
                      have H87 := Lib.hid h87
                      clear hx hc21 hz3 r3 r4 h87'
                      go_wp2_with fail
                      refine HC21.out.mono ?_
                      rintro e w7 ⟨rfl, hw7⟩
                      go_wp2_with fail
                      go_roundg (b' - mid)
                      case measure => omega
                      case rel =>
                        exact ⟨mid, b', (rd lt dk a' b' lim wb wp).lim, wb, wp, d4, rfl, rfl, rfl, rfl, rfl, r2, hb', Nat.le_refl _, by omega, Nat.le_trans rd_lim_le hlim, hs4, R4, (show Aside _ from SW.trans hAt6.out hw7.out), (show Aside _ from by rw [← A.out, pdq_eq h12 hl0 HP2.out H87.out (by rw [X.out]; exact ⟨r1, r2⟩), X.out]; exact rfl)⟩

set_option maxHeartbeats 1000000 in
set_option maxRecDepth 100000 in
theorem sort_any (R : Row blk N rv lt J) (hO : SWO lt) (d : Array α) (w : World) (hJ : J w d) (hd : d.size = N) (h2 : 2 ≤ N) :
    Calls Tryd.prog 20 #[.iface 51 rv] w fun e w' => e = .returned (.tuple #[]) ∧ ∃ d', PermIn 0 N d d' ∧ SortedIn lt 0 N d' ∧ SW blk J w d' w' := by
  have hsz := R.small
  have HLEN := Lib.hid (R.len w)
  have HB := Lib.hid (fun W => Tryd.bits_Len (N : Int) W (by omega) (by omega))
  have hlim : Lib.bitLen N < 4611686018427387904 := Nat.lt_of_le_of_lt (Lib.bitLen_le N 62 (by omega) (by omega)) (by omega)
  have HP := Lib.hid (pdqsort_any R hO (N + 1) 0 N (Lib.bitLen N) d w (by omega) hJ hd (Nat.zero_le _) (Nat.le_refl _) hlim (Or.inl rfl))
  have HS := Lib.hid (pdq_sorts lt hO d 0 N (Lib.bitLen N) true true (Nat.zero_le _) (by omega) (Or.inl rfl))
  have hT : Hid ((N : Int).toNat = N) := by show _ = _; omega
  clear hJ hd
  go_enter Tryd.func20, Tryd.ntmps20
  go_wp2_with fail
  refine HLEN.out.mono ?_
  rintro e w1 ⟨rfl, rfl⟩
  go_wp2_with fail
  refine (HB.out _).mono ?_
  rintro e w1 ⟨rfl, rfl⟩
  rw [hT.out]
  go_wp2_with fail
  refine HP.out.mono ?_
  rintro e w2 ⟨rfl, S⟩
  go_wp2_with fail
  go_end0
  exact ⟨rfl, _, HS.out.1, HS.out.2, S.out⟩
end Go.Proofs.YtpmihkhmijndaaaDoor.srt
