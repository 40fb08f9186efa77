/- sort.partitionEqual and partition over a row of several cells (turned from the shelf's texts). -/
import Derived.Test.YtpmihkhmijndaaaDoorSortKit
import Derived.Shelf.GgSortFunc.Partition
namespace Go.Proofs.YtpmihkhmijndaaaDoor.srt
open Go.Shelf Go.RowKit Go.Lib Go.Sort
variable {α : Type} [Inhabited α] {blk N : Nat} {rv : Value} {lt : α → α → Bool} {J : World → Array α → Prop}

set_option maxHeartbeats 12800000 in
set_option maxRecDepth 100000 in
theorem partitionEqual_any (R : Row blk N rv lt J) (a b pivot : Nat) (d : Array α) (W : World) (hJ : J W d) (hd : d.size = N) (hap : a ≤ pivot) (hpb : pivot < b) (hb : b ≤ N) :
    Calls Tryd.prog 35 #[.iface 51 rv, .int .i64 (a : Int), .int .i64 (b : Int), .int .i64 (pivot : Int)] W fun e w' =>
      e = .returned (.int .i64 ((Go.Sort.partitionEqual lt d a b pivot).1 : Int)) ∧ Aside (SW blk J W (Go.Sort.partitionEqual lt d a b pivot).2 w') := by
  have hsz := R.small
  have S0 : Aside (SW blk J W d W) := SW.start hJ
  have HS0 := Lib.hid (R.swapAt (w := W) (X := d) a pivot hd (by omega) (by omega))
  have HSZ : Hid ((swp d a pivot).size = N) := (size_swp _ _ _).trans hd
  clear hJ hd
  go_enter Tryd.func35, Tryd.ntmps35
  go_wp2_with fail
  refine (HS0.out _ _ _ (by omega) (by omega) S0).mono ?_
  rintro e wa ⟨rfl, SA⟩
  go_wp2_with fail
  go_loopw [9, 10] (fun vi vj wr => ∃ (i j : Nat) (dk : Array α), vi = .int .i64 (i : Int) ∧ vj = .int .i64 (j : Int) ∧ a < i ∧ i ≤ j + 1 ∧ j < b ∧ Hid (dk.size = N) ∧ Aside (SW blk J W dk wr) ∧
      Hid (Go.Sort.partEqLoop lt a i j dk = Go.Sort.partEqLoop lt a (a + 1) (b - 1) (swp d a pivot)))
    (fun vi vj _ => (RowKit.intOf vj).toNat + 1 - (RowKit.intOf vi).toNat)
  case atStart => exact ⟨a + 1, b - 1, swp d a pivot, by go_num, by go_num, by omega, by omega, by omega, HSZ, SA, rfl⟩
  case round =>
    obtain ⟨i, j, dk, rfl, rfl, hai, hij, hjb, hs, SB, AE⟩ := hrel
    clear HS0 HSZ SA S0
    go_wp2_with fail
    go_loopw [9] (fun vi w1 => ∃ (i' : Nat), vi = .int .i64 (i' : Int) ∧ i ≤ i' ∧ i' ≤ j + 1 ∧ Aside (SW blk J W dk w1) ∧
        Hid (Go.Sort.scanUp (fun x => !lt dk[a]! x) dk j i' = Go.Sort.scanUp (fun x => !lt dk[a]! x) dk j i)) (fun vi _ => j + 1 - (RowKit.intOf vi).toNat)
    case atStart => exact ⟨i, rfl, Nat.le_refl _, hij, SB, rfl⟩
    case round =>
      obtain ⟨i', rfl, hii, hij', SI, hsc⟩ := hrel
      by_cases hle : i' ≤ j
      · cases hlv : lt dk[a]! dk[i']! with
        | false =>
          have HL := Lib.hid (R.lessAt (w := W) (X := dk) a i' false hs.out (by omega) (by omega) hlv)
          go_wp2_with fail
          refine (HL.out _ _ _ (by omega) (by omega) SI).mono ?_
          rintro e v1 ⟨rfl, SI1⟩
          go_wp2_with fail
          go_roundw
          case rel => exact ⟨i' + 1, by go_num, by omega, by omega, SI1, (scanUp_go (fun x => !lt dk[a]! x) dk j i' hle (by simp [hlv])).symm.trans hsc.out⟩
          case measure => simp [RowKit.intOf]; omega
        | true =>
          have HL := Lib.hid (R.lessAt (w := W) (X := dk) a i' true hs.out (by omega) (by omega) hlv)
          have hi2 : Hid (i' = Go.Sort.scanUp (fun x => !lt dk[a]! x) dk j i) := (scanUp_end (fun x => !lt dk[a]! x) dk j i' (Or.inr (by simp [hlv]))).symm.trans hsc.out
          go_wp2_with fail
          refine (HL.out _ _ _ (by omega) (by omega) SI).mono ?_
          rintro e v1 ⟨rfl, SI1⟩
          go_wp2_with fail
          clear hsc SI HL
          go_loopw [10] (fun vj w2 => ∃ (j' : Nat), vj = .int .i64 (j' : Int) ∧ j' ≤ j ∧ i' ≤ j' + 1 ∧ Aside (SW blk J W dk w2) ∧
              Hid (Go.Sort.scanDown (fun x => lt dk[a]! x) dk i' j' = Go.Sort.scanDown (fun x => lt dk[a]! x) dk i' j)) (fun vj _ => (RowKit.intOf vj).toNat)
          case atStart => exact ⟨j, rfl, Nat.le_refl _, hij', SI1, rfl⟩
          case round =>
            obtain ⟨j', rfl, hjj, hij2, SJ, hsd⟩ := hrel
            by_cases hle2 : i' ≤ j'
            · cases hlv2 : lt dk[a]! dk[j']! with
              | true =>
                have HL2 := Lib.hid (R.lessAt (w := W) (X := dk) a j' true hs.out (by omega) (by omega) hlv2)
                go_wp2_with fail
                refine (HL2.out _ _ _ (by omega) (by omega) SJ).mono ?_
                rintro e v2 ⟨rfl, SJ1⟩
                go_wp2_with fail
                go_roundw
                case rel => exact ⟨j' - 1, by go_num, by omega, by omega, SJ1, (scanDown_go (fun x => lt dk[a]! x) dk i' j' hle2 (by omega) hlv2).symm.trans hsd.out⟩
                case measure => simp [RowKit.intOf]; omega
              | false =>
                have HL2 := Lib.hid (R.lessAt (w := W) (X := dk) a j' false hs.out (by omega) (by omega) hlv2)
                have hj2 : Hid (j' = Go.Sort.scanDown (fun x => lt dk[a]! x) dk i' j) := (scanDown_end (fun x => lt dk[a]! x) dk i' j' (Or.inr hlv2)).symm.trans hsd.out
                have hlt3 := scans_lt lt a i j dk (by omega) hi2.out hj2.out hle2
                have HS2 := Lib.hid (R.swapAt (w := W) (X := dk) i' j' hs.out (by omega) (by omega))
                go_wp2_with fail
                refine (HL2.out _ _ _ (by omega) (by omega) SJ).mono ?_
                rintro e v2 ⟨rfl, SJ1⟩
                go_wp2_with fail
                refine (HS2.out _ _ _ (by omega) (by omega) SJ1).mono ?_
                rintro e v3 ⟨rfl, SJ2⟩
                go_wp2_with fail
                go_roundw
                case rel => exact ⟨i' + 1, j' - 1, swp dk i' j', by go_num, by go_num, by omega, by omega, by omega, (show Hid _ from (size_swp _ _ _).trans hs.out), SJ2, (show Hid _ from by rw [← AE.out]; exact (partEq_go lt a i j dk hi2.out hj2.out (by omega)).symm)⟩
                case measure => simp [RowKit.intOf]; omega
            · have hj2 : Hid (j' = Go.Sort.scanDown (fun x => lt dk[a]! x) dk i' j) := (scanDown_end (fun x => lt dk[a]! x) dk i' j' (Or.inl hle2)).symm.trans hsd.out
              go_wp2_with fail
              go_ret
              have e := partEq_break lt a i j dk hi2.out hj2.out (by omega)
              have ep : Go.Sort.partitionEqual lt d a b pivot = (i', dk) := by unfold Go.Sort.partitionEqual; rw [← AE.out, e]
              rw [ep]
              exact ⟨rfl, SJ⟩
      · have hi2 : Hid (i' = Go.Sort.scanUp (fun x => !lt dk[a]! x) dk j i) := (scanUp_end (fun x => !lt dk[a]! x) dk j i' (Or.inl hle)).symm.trans hsc.out
        go_wp2_with fail
        clear hsc
        go_loopw [10] (fun vj w2 => ∃ (j' : Nat), vj = .int .i64 (j' : Int) ∧ j' ≤ j ∧ i' ≤ j' + 1 ∧ Aside (SW blk J W dk w2) ∧
            Hid (Go.Sort.scanDown (fun x => lt dk[a]! x) dk i' j' = Go.Sort.scanDown (fun x => lt dk[a]! x) dk i' j)) (fun vj _ => (RowKit.intOf vj).toNat)
        case atStart => exact ⟨j, rfl, Nat.le_refl _, hij', SI, rfl⟩
        case round =>
          obtain ⟨j', rfl, hjj, hij2, SJ, hsd⟩ := hrel
          by_cases hle2 : i' ≤ j'
          · exfalso; omega
          · have hj2 : Hid (j' = Go.Sort.scanDown (fun x => lt dk[a]! x) dk i' j) := (scanDown_end (fun x => lt dk[a]! x) dk i' j' (Or.inl hle2)).symm.trans hsd.out
            go_wp2_with fail
            go_ret
            have e := partEq_break lt a i j dk hi2.out hj2.out (by omega)
            have ep : Go.Sort.partitionEqual lt d a b pivot = (i', dk) := by unfold Go.Sort.partitionEqual; rw [← AE.out, e]
            rw [ep]
            exact ⟨rfl, SJ⟩

set_option maxHeartbeats 12800000 in
set_option maxRecDepth 100000 in
theorem partition_any (R : Row blk N rv lt J) (a b pivot : Nat) (d : Array α) (W : World) (hJ : J W d) (hd : d.size = N) (hap : a ≤ pivot) (hpb : pivot < b) (hb : b ≤ N) :
    Calls Tryd.prog 36 #[.iface 51 rv, .int .i64 (a : Int), .int .i64 (b : Int), .int .i64 (pivot : Int)] W fun e w' =>
      e = .returned (.tuple #[.int .i64 ((Go.Sort.partition lt d a b pivot).1 : Int), .bool (Go.Sort.partition lt d a b pivot).2.1]) ∧ Aside (SW blk J W (Go.Sort.partition lt d a b pivot).2.2 w') := by
  have hsz := R.small
  have S0 : Aside (SW blk J W d W) := SW.start hJ
  obtain ⟨i, hi⟩ : ∃ i : Nat, i = a + 1 := ⟨_, rfl⟩
  obtain ⟨j, hj⟩ : ∃ j : Nat, j = b - 1 := ⟨_, rfl⟩
  obtain ⟨dk, hdk⟩ : ∃ dk : Array α, dk = swp d a pivot := ⟨_, rfl⟩
  have hs : Hid (dk.size = N) := by show _ = _; rw [hdk]; exact (size_swp _ _ _).trans hd
  have hai : a < i := by omega
  have hij : i ≤ j + 1 := by omega
  have hjb : j < b := by omega
  have HS0 := Lib.hid (R.swapAt (w := W) (X := d) a pivot hd (by omega) (by omega))
  rw [← hdk] at HS0
  have Hi : Hid (i = a + 1) := hi
  have Hj : Hid (j = b - 1) := hj
  have Hdk : Hid (dk = swp d a pivot) := hdk
  clear hi hj hdk hJ hd
  go_enter Tryd.func36, Tryd.ntmps36
  go_wp2_with fail
  refine (HS0.out _ _ _ (by omega) (by omega) S0).mono ?_
  rintro e wa ⟨rfl, SA⟩
  go_wp2_with fail
  rw [show ((a : Int) + 1) = (i : Int) by have := Hi.out; omega, show ((b : Int) - 1) = (j : Int) by have := Hj.out; omega]
  go_loopw [10] (fun vi w1 => ∃ (i' : Nat), vi = .int .i64 (i' : Int) ∧ i ≤ i' ∧ i' ≤ j + 1 ∧ Aside (SW blk J W dk w1) ∧
      Hid (Go.Sort.scanUp (fun x => lt x dk[a]!) dk j i' = Go.Sort.scanUp (fun x => lt x dk[a]!) dk j i)) (fun vi _ => j + 1 - (RowKit.intOf vi).toNat)
  case atStart => exact ⟨i, rfl, Nat.le_refl _, hij, SA, rfl⟩
  case round =>
    obtain ⟨i', rfl, hii, hij', SI, hsc⟩ := hrel
    by_cases hle : i' ≤ j
    · cases hlv : lt dk[i']! dk[a]! with
      | true =>
        have HL := Lib.hid (R.lessAt (w := W) (X := dk) i' a true hs.out (by omega) (by omega) hlv)
        go_wp2_with fail
        refine (HL.out _ _ _ (by omega) (by omega) SI).mono ?_
        rintro e v1 ⟨rfl, SI1⟩
        go_wp2_with fail
        go_roundw
        case rel => exact ⟨i' + 1, by go_num, by omega, by omega, SI1, (scanUp_go (fun x => lt x dk[a]!) dk j i' hle hlv).symm.trans hsc.out⟩
        case measure => simp [RowKit.intOf]; omega
      | false =>
        have HL := Lib.hid (R.lessAt (w := W) (X := dk) i' a false hs.out (by omega) (by omega) hlv)
        have hi2 : Hid (i' = Go.Sort.scanUp (fun x => lt x dk[a]!) dk j i) := (scanUp_end (fun x => lt x dk[a]!) dk j i' (Or.inr hlv)).symm.trans hsc.out
        go_wp2_with fail
        refine (HL.out _ _ _ (by omega) (by omega) SI).mono ?_
        rintro e v1 ⟨rfl, SI1⟩
        go_wp2_with fail
        clear hsc SI HL
        go_loopw [11] (fun vj w2 => ∃ (j' : Nat), vj = .int .i64 (j' : Int) ∧ j' ≤ j ∧ i' ≤ j' + 1 ∧ Aside (SW blk J W dk w2) ∧
            Hid (Go.Sort.scanDown (fun x => !lt x dk[a]!) dk i' j' = Go.Sort.scanDown (fun x => !lt x dk[a]!) dk i' j)) (fun vj _ => (RowKit.intOf vj).toNat)
        case atStart => exact ⟨j, rfl, Nat.le_refl _, hij', SI1, rfl⟩
        case round =>
          obtain ⟨j', rfl, hjj, hij2, SJ, hsd⟩ := hrel
          by_cases hle2 : i' ≤ j'
          · cases hlv2 : lt dk[j']! dk[a]! with
            | false =>
              have HL2 := Lib.hid (R.lessAt (w := W) (X := dk) j' a false hs.out (by omega) (by omega) hlv2)
              go_wp2_with fail
              refine (HL2.out _ _ _ (by omega) (by omega) SJ).mono ?_
              rintro e v2 ⟨rfl, SJ1⟩
              go_wp2_with fail
              go_roundw
              case rel => exact ⟨j' - 1, by go_num, by omega, by omega, SJ1, (scanDown_go (fun x => !lt x dk[a]!) dk i' j' hle2 (by omega) (by simp [hlv2])).symm.trans hsd.out⟩
              case measure => simp [RowKit.intOf]; omega
            | true =>
              have HL2 := Lib.hid (R.lessAt (w := W) (X := dk) j' a true hs.out (by omega) (by omega) hlv2)
              have hj2 : Hid (j' = Go.Sort.scanDown (fun x => !lt x dk[a]!) dk i' j) := (scanDown_end (fun x => !lt x dk[a]!) dk i' j' (Or.inr (by simp [hlv2]))).symm.trans hsd.out
              have hlt3 := part_scans_lt lt a i j dk (by omega) hi2.out hj2.out hle2
              have HS2 := Lib.hid (R.swapAt (w := W) (X := dk) i' j' hs.out (by omega) (by omega))
              go_wp2_with fail
              refine (HL2.out _ _ _ (by omega) (by omega) SJ).mono ?_
              rintro e v2 ⟨rfl, SJ1⟩
              go_wp2_with fail
              refine (HS2.out _ _ _ (by omega) (by omega) SJ1).mono ?_
              rintro e v3 ⟨rfl, SJ2⟩
              go_wp2_with fail
              (try rw [decide_eq_false (show ¬ j' < i' by omega)])
              obtain ⟨I0, hI0⟩ : ∃ I0 : Nat, I0 = i' + 1 := ⟨_, rfl⟩
              obtain ⟨J0, hJ0⟩ : ∃ J0 : Nat, J0 = j' - 1 := ⟨_, rfl⟩
              obtain ⟨D0, hD0⟩ : ∃ D0 : Array α, D0 = swp dk i' j' := ⟨_, rfl⟩
              have PF : Hid (Go.Sort.partition lt d a b pivot = ((Go.Sort.partLoop lt a I0 J0 D0).1, false, swp (Go.Sort.partLoop lt a I0 J0 D0).2 (Go.Sort.partLoop lt a I0 J0 D0).1 a)) := by
                rw [hI0, hJ0, hD0]; exact part_first_go lt d a b pivot Hi.out Hj.out Hdk.out hi2.out hj2.out (by omega)
              have HI0 := Lib.hid hI0
              have HJ0 := Lib.hid hJ0
              have HD0 := Lib.hid hD0
              clear hI0 hJ0 hD0
              go_loopw [10, 11] (fun vi vj wr => ∃ (i j : Nat) (dk : Array α), vi = .int .i64 (i : Int) ∧ vj = .int .i64 (j : Int) ∧ a < i ∧ i ≤ j + 1 ∧ j < b ∧ Hid (dk.size = N) ∧ Aside (SW blk J W dk wr) ∧
                  Hid (Go.Sort.partLoop lt a i j dk = Go.Sort.partLoop lt a I0 J0 D0))
                (fun vi vj _ => (RowKit.intOf vj).toNat + 1 - (RowKit.intOf vi).toNat)
              case atStart => exact ⟨i' + 1, j' - 1, swp dk i' j', by go_num, by go_num, by omega, by omega, by omega, (show Hid _ from (size_swp _ _ _).trans hs.out), SJ2, (show Hid _ from by rw [HI0.out, HJ0.out, HD0.out]; exact rfl)⟩
              case round =>
                clear HI0 HJ0 HD0 hj2 hi2 hlt3 Hi Hj Hdk hs HL2 HS2 SJ SJ1 SJ2
                obtain ⟨i, j, dk, rfl, rfl, hai, hij, hjb, hs, SB, AE⟩ := hrel
                go_wp2_with fail
                go_loopw [10] (fun vi w1 => ∃ (i' : Nat), vi = .int .i64 (i' : Int) ∧ i ≤ i' ∧ i' ≤ j + 1 ∧ Aside (SW blk J W dk w1) ∧
                    Hid (Go.Sort.scanUp (fun x => lt x dk[a]!) dk j i' = Go.Sort.scanUp (fun x => lt x dk[a]!) dk j i)) (fun vi _ => j + 1 - (RowKit.intOf vi).toNat)
                case atStart => exact ⟨i, rfl, Nat.le_refl _, hij, SB, rfl⟩
                case round =>
                  obtain ⟨i', rfl, hii, hij', SI, hsc⟩ := hrel
                  by_cases hle : i' ≤ j
                  · cases hlv : lt dk[i']! dk[a]! with
                    | true =>
                      have HL := Lib.hid (R.lessAt (w := W) (X := dk) i' a true hs.out (by omega) (by omega) hlv)
                      go_wp2_with fail
                      refine (HL.out _ _ _ (by omega) (by omega) SI).mono ?_
                      rintro e v1 ⟨rfl, SI1⟩
                      go_wp2_with fail
                      go_roundw
                      case rel => exact ⟨i' + 1, by go_num, by omega, by omega, SI1, (scanUp_go (fun x => lt x dk[a]!) dk j i' hle hlv).symm.trans hsc.out⟩
                      case measure => simp [RowKit.intOf]; omega
                    | false =>
                      have HL := Lib.hid (R.lessAt (w := W) (X := dk) i' a false hs.out (by omega) (by omega) hlv)
                      have hi2 : Hid (i' = Go.Sort.scanUp (fun x => lt x dk[a]!) dk j i) := (scanUp_end (fun x => lt x dk[a]!) dk j i' (Or.inr hlv)).symm.trans hsc.out
                      go_wp2_with fail
                      refine (HL.out _ _ _ (by omega) (by omega) SI).mono ?_
                      rintro e v1 ⟨rfl, SI1⟩
                      go_wp2_with fail
                      clear hsc SI HL
                      go_loopw [11] (fun vj w2 => ∃ (j' : Nat), vj = .int .i64 (j' : Int) ∧ j' ≤ j ∧ i' ≤ j' + 1 ∧ Aside (SW blk J W dk w2) ∧
                          Hid (Go.Sort.scanDown (fun x => !lt x dk[a]!) dk i' j' = Go.Sort.scanDown (fun x => !lt x dk[a]!) dk i' j)) (fun vj _ => (RowKit.intOf vj).toNat)
                      case atStart => exact ⟨j, rfl, Nat.le_refl _, hij', SI1, rfl⟩
                      case round =>
                        obtain ⟨j', rfl, hjj, hij2, SJ, hsd⟩ := hrel
                        by_cases hle2 : i' ≤ j'
                        · cases hlv2 : lt dk[j']! dk[a]! with
                          | false =>
                            have HL2 := Lib.hid (R.lessAt (w := W) (X := dk) j' a false hs.out (by omega) (by omega) hlv2)
                            go_wp2_with fail
                            refine (HL2.out _ _ _ (by omega) (by omega) SJ).mono ?_
                            rintro e v2 ⟨rfl, SJ1⟩
                            go_wp2_with fail
                            go_roundw
                            case rel => exact ⟨j' - 1, by go_num, by omega, by omega, SJ1, (scanDown_go (fun x => !lt x dk[a]!) dk i' j' hle2 (by omega) (by simp [hlv2])).symm.trans hsd.out⟩
                            case measure => simp [RowKit.intOf]; omega
                          | true =>
                            have HL2 := Lib.hid (R.lessAt (w := W) (X := dk) j' a true hs.out (by omega) (by omega) hlv2)
                            have hj2 : Hid (j' = Go.Sort.scanDown (fun x => !lt x dk[a]!) dk i' j) := (scanDown_end (fun x => !lt x dk[a]!) dk i' j' (Or.inr (by simp [hlv2]))).symm.trans hsd.out
                            have hlt3 := part_scans_lt lt a i j dk (by omega) hi2.out hj2.out hle2
                            have HS2 := Lib.hid (R.swapAt (w := W) (X := dk) i' j' hs.out (by omega) (by omega))
                            go_wp2_with fail
                            refine (HL2.out _ _ _ (by omega) (by omega) SJ).mono ?_
                            rintro e v2 ⟨rfl, SJ1⟩
                            go_wp2_with fail
                            refine (HS2.out _ _ _ (by omega) (by omega) SJ1).mono ?_
                            rintro e v3 ⟨rfl, SJ2⟩
                            go_wp2_with fail
                            go_roundw
                            case rel => exact ⟨i' + 1, j' - 1, swp dk i' j', by go_num, by go_num, by omega, by omega, by omega, (show Hid _ from (size_swp _ _ _).trans hs.out), SJ2, (show Hid _ from by rw [← AE.out]; exact (part_go lt a i j dk hi2.out hj2.out (by omega)).symm)⟩
                            case measure => simp [RowKit.intOf]; omega
                        · have hj2 : Hid (j' = Go.Sort.scanDown (fun x => !lt x dk[a]!) dk i' j) := (scanDown_end (fun x => !lt x dk[a]!) dk i' j' (Or.inl hle2)).symm.trans hsd.out
                          have HS3 := Lib.hid (R.swapAt (w := W) (X := dk) j' a hs.out (by omega) (by omega))
                          go_wp2_with fail
                          refine (HS3.out _ _ _ (by omega) (by omega) SJ).mono ?_
                          rintro e v4 ⟨rfl, SZ⟩
                          go_wp2_with fail
                          go_ret2
                          have e := part_break lt a i j dk hi2.out hj2.out (by omega)
                          rw [PF.out, ← AE.out, e]
                          exact ⟨rfl, SZ⟩
                  · have hi2 : Hid (i' = Go.Sort.scanUp (fun x => lt x dk[a]!) dk j i) := (scanUp_end (fun x => lt x dk[a]!) dk j i' (Or.inl hle)).symm.trans hsc.out
                    go_wp2_with fail
                    clear hsc
                    go_loopw [11] (fun vj w2 => ∃ (j' : Nat), vj = .int .i64 (j' : Int) ∧ j' ≤ j ∧ i' ≤ j' + 1 ∧ Aside (SW blk J W dk w2) ∧
                        Hid (Go.Sort.scanDown (fun x => !lt x dk[a]!) dk i' j' = Go.Sort.scanDown (fun x => !lt x dk[a]!) dk i' j)) (fun vj _ => (RowKit.intOf vj).toNat)
                    case atStart => exact ⟨j, rfl, Nat.le_refl _, hij', SI, rfl⟩
                    case round =>
                      obtain ⟨j', rfl, hjj, hij2, SJ, hsd⟩ := hrel
                      by_cases hle2 : i' ≤ j'
                      · exfalso; omega
                      · have hj2 : Hid (j' = Go.Sort.scanDown (fun x => !lt x dk[a]!) dk i' j) := (scanDown_end (fun x => !lt x dk[a]!) dk i' j' (Or.inl hle2)).symm.trans hsd.out
                        have HS3 := Lib.hid (R.swapAt (w := W) (X := dk) j' a hs.out (by omega) (by omega))
                        go_wp2_with fail
                        refine (HS3.out _ _ _ (by omega) (by omega) SJ).mono ?_
                        rintro e v4 ⟨rfl, SZ⟩
                        go_wp2_with fail
                        go_ret2
                        have e := part_break lt a i j dk hi2.out hj2.out (by omega)
                        rw [PF.out, ← AE.out, e]
                        exact ⟨rfl, SZ⟩
          · have hj2 : Hid (j' = Go.Sort.scanDown (fun x => !lt x dk[a]!) dk i' j) := (scanDown_end (fun x => !lt x dk[a]!) dk i' j' (Or.inl hle2)).symm.trans hsd.out
            have HS3 := Lib.hid (R.swapAt (w := W) (X := dk) j' a hs.out (by omega) (by omega))
            go_wp2_with fail
            refine (HS3.out _ _ _ (by omega) (by omega) SJ).mono ?_
            rintro e v4 ⟨rfl, SZ⟩
            go_wp2_with fail
            go_ret2
            have e := part_first_break lt d a b pivot Hi.out Hj.out Hdk.out hi2.out hj2.out (by omega)
            rw [e]
            exact ⟨rfl, SZ⟩
    · have hi2 : Hid (i' = Go.Sort.scanUp (fun x => lt x dk[a]!) dk j i) := (scanUp_end (fun x => lt x dk[a]!) dk j i' (Or.inl hle)).symm.trans hsc.out
      go_wp2_with fail
      clear hsc
      go_loopw [11] (fun vj w2 => ∃ (j' : Nat), vj = .int .i64 (j' : Int) ∧ j' ≤ j ∧ i' ≤ j' + 1 ∧ Aside (SW blk J W dk w2) ∧
          Hid (Go.Sort.scanDown (fun x => !lt x dk[a]!) dk i' j' = Go.Sort.scanDown (fun x => !lt x dk[a]!) dk i' j)) (fun vj _ => (RowKit.intOf vj).toNat)
      case atStart => exact ⟨j, rfl, Nat.le_refl _, hij', SI, rfl⟩
      case round =>
        obtain ⟨j', rfl, hjj, hij2, SJ, hsd⟩ := hrel
        by_cases hle2 : i' ≤ j'
        · exfalso; omega
        · have hj2 : Hid (j' = Go.Sort.scanDown (fun x => !lt x dk[a]!) dk i' j) := (scanDown_end (fun x => !lt x dk[a]!) dk i' j' (Or.inl hle2)).symm.trans hsd.out
          have HS3 := Lib.hid (R.swapAt (w := W) (X := dk) j' a hs.out (by omega) (by omega))
          go_wp2_with fail
          refine (HS3.out _ _ _ (by omega) (by omega) SJ).mono ?_
          rintro e v4 ⟨rfl, SZ⟩
          go_wp2_with fail
          go_ret2
          have e := part_first_break lt d a b pivot Hi.out Hj.out Hdk.out hi2.out hj2.out (by omega)
          rw [e]
          exact ⟨rfl, SZ⟩
end Go.Proofs.YtpmihkhmijndaaaDoor.srt
