/- What spec.Ensured computes: ens of the string's bytes. -/
import Derived.Test.YteoggommgbajnaaEnsWalk
namespace Go.Proofs.Yteoggommgbajnaa.ens
open Go.ChangeShapes Go.WideShapes Go.ChangeAt Go.RowKit

theorem ret_bool {a b : Bool} (h : a = b) : Ending.returned (.bool a) = .returned (.bool b) := by rw [h]

theorem isL_any (c : Nat) (w : World) :
    Calls Try.prog 18 #[.int .u8 (c : Int)] w fun e w' => e = .returned (.bool (isL c)) ∧ w = w' := by
  have hc : c < 65 ∨ (65 ≤ c ∧ c ≤ 90) ∨ (90 < c ∧ c < 97) ∨ (97 ≤ c ∧ c ≤ 122) ∨ 122 < c := by omega
  rcases hc with h | h | h | h | h
  all_goals
    go_enter Try.func18, Try.ntmps18
    go_wp2
    go_ret
    refine ⟨ret_bool ?_, rfl⟩
    rw [Bool.eq_iff_iff]
    simp [isL]
    try omega

theorem isD_any (c : Nat) (w : World) :
    Calls Try.prog 19 #[.int .u8 (c : Int)] w fun e w' => e = .returned (.bool (isD c)) ∧ w = w' := by
  have hc : c < 48 ∨ (48 ≤ c ∧ c ≤ 57) ∨ 57 < c := by omega
  rcases hc with h | h | h
  all_goals
    go_enter Try.func19, Try.ntmps19
    go_wp2
    go_ret
    refine ⟨ret_bool ?_, rfl⟩
    rw [Bool.eq_iff_iff]
    simp [isD]
    try omega

/-- The state of the loop. -/
def Rel2 (s : ByteArray) (w : World) (v g i : Value) (wr : World) : Prop := ∃ (pos : Nat) (out : List UInt8) (gap : Bool), pos ≤ s.size ∧ i = .int .i64 (pos : Int) ∧ run (s.data.toList.take pos) = (out, gap) ∧
  wr.ownsRow w.heap.size 5 1 v out.length (bc out) ∧ g = .bool gap ∧ Below w.heap.size w wr

theorem rel2_one {w W : World} {s : ByteArray} {v : Value} {out : List UInt8} {gap : Bool} {c : UInt8} {pos : Nat} {i : Value} (hi : i = .int .i64 ((pos + 1 : Nat) : Int)) (hn2 : pos + 1 ≤ s.size) (HR : run (s.data.toList.take (pos + 1)) = ((if gap = true then out ++ [95] else out) ++ [c], false))
    {n : Nat} {pre : List Value} (hpre : pre = bc (if gap = true then out ++ [95] else out)) (hn : n = (if gap = true then out ++ [95] else out).length)
    (hown : W.ownsRow w.heap.size 5 1 v (n + 1) (pre ++ [.int .u8 (c.toNat : Int)])) (hbw : Below w.heap.size w W) : Rel2 s w v (.bool false) i W := by
  subst hpre; subst hn
  refine ⟨pos + 1, _, false, hn2, hi, HR, ?_, rfl, hbw⟩
  rw [bc_snoc, List.length_append]
  exact hown

theorem pushed2 {w W w1 : World} {v : Value} {n : Nat} {xs : List Value} {o : Obj} (hown : W.ownsRow w.heap.size 5 1 v n xs) (hbw : Below w.heap.size w W)
    (hg : (W.alloc o).grownBy w1 v.ownBlock) : Below w.heap.size w w1 := by
  have hB : w.heap.size ≤ W.heap.size := hbw.size
  exact (hbw.alloc hB o).grown hg (by simp; omega) fun k e => ((hown.alloc o).lt k e).1

set_option maxHeartbeats 1000000 in
theorem ensured_any (s : ByteArray) (hs : s.size < 140737488355328) (w : World) :
    Calls Try.prog 9 #[.string s] w fun e w' => e = .returned (.string ⟨(ens s.data.toList).toArray⟩) ∧ Below w.heap.size w w' := by
  obtain ⟨i0, hi, hz0, hz1, hz2⟩ := info_parts info5
  go_enter Try.func9, Try.ntmps9
  go_wp2
  go_loopw [3, 4, 9] (fun v g i wr => Rel2 s w v g i wr) (fun _ _ i _ => s.size - (intOf i).toNat)
  case atStart =>
    refine ⟨0, [], false, Nat.zero_le _, rfl, by simp [run], ?_, rfl, Below.refl _ w⟩
    exact ⟨rfl, Or.inl ⟨rfl, rfl⟩⟩
  case round =>
    obtain ⟨pos, out, gap, hpos, rfl, hrun, hown, rfl, hbw⟩ := hrel
    obtain ⟨a0, c0, rfl⟩ := own_len hown
    by_cases hp : pos < s.size
    · have hb := run_byte s pos hp
      rw [← getD_eq s pos hp, hrun] at hb
      have hlen := run_len (s.data.toList.take pos)
      rw [hrun] at hlen
      have hlen2 : out.length + 2 ≤ 140737488355328 := by
        have : (s.data.toList.take pos).length ≤ pos := List.length_take_le _ _
        simp only at hlen
        split at hlen <;> omega
      have hsz : w.heap.size ≤ wr.heap.size := hbw.size
      clear hrun hlen
      cases ht : takes out (s[pos]'hp).toNat with
      | true =>
        rw [step_take _ _ ht] at hb
        have HR := Lib.hid hb
        clear hb
        have hcs : isL (s[pos]'hp).toNat = true ∨ (isL (s[pos]'hp).toNat = false ∧ isD (s[pos]'hp).toNat = true ∧ 0 < out.length) := by
          cases h1 : isL (s[pos]'hp).toNat with
          | true => exact Or.inl rfl
          | false =>
            right
            simp only [takes, h1, Bool.false_or, Bool.and_eq_true] at ht
            refine ⟨rfl, ht.1, ?_⟩
            cases out with
            | nil => simp at ht
            | cons x xs => simp
        clear ht
        cases gap with
        | true =>
          rcases hcs with h | ⟨h, h', h2⟩
          all_goals
            go_wp2_with (first
              | (go_at_call 18; refine (isL_any _ _).mono ?_; rintro e w' ⟨rfl, rfl⟩)
              | (go_at_call 19; refine (isD_any _ _).mono ?_; rintro e w' ⟨rfl, rfl⟩)
              | (at_builtin; refine wpList_append_own _ rfl (.tmp 27) (.tmp 28) 35 rfl w.heap.size 5 i0 (.int .u8 0) 1 1 Try.underlying35 hi hz0 hz1 hz2 rfl (by decide) (.slice a0 out.length c0) out.length (bc out) rfl (hown.alloc _) ⟨wr.heap.size, 0, none⟩ 1 1 [.int .u8 95] rfl rfl (cell_one_new _ _ _) (by intro u hu; simp at hu; subst hu; rfl) (by unfold maxLen; omega) (by omega) (by simp; omega) ?_; intro v1 w1 hown1 hgrow1 _; have hs1 := hgrow1.size; simp at hs1)
              | (at_builtin; refine wpList_append_own _ rfl (.tmp 30) (.tmp 32) 35 rfl w.heap.size 5 i0 (.int .u8 0) 1 1 Try.underlying35 hi hz0 hz1 hz2 rfl (by decide) v1 (out.length + 1) (bc out ++ [.int .u8 95]) rfl (hown1.alloc _) ⟨w1.heap.size, 0, none⟩ 1 1 [.int .u8 ((s[pos]'hp).toNat : Int)] rfl rfl (cell_one_new _ _ _) (by intro u hu; simp at hu; subst hu; rfl) (by unfold maxLen; omega) (by omega) (by simp; omega) ?_; intro v2 w2 hown3 hgrow2 _))
            have hbw1 := pushed2 hown hbw hgrow1
            have hbw2 := pushed2 hown1 hbw1 hgrow2
            clear hgrow1 hgrow2 hown1 hown
            go_roundw
            case rel => exact rel2_one (gap := true) (out := out) (by go_num) hp (by simpa using HR.out) (by simp [bc]) (by simp) hown3 hbw2
            case measure => simp [intOf]; omega
        | false =>
          rcases hcs with h | ⟨h, h', h2⟩
          all_goals
            go_wp2_with (first
              | (go_at_call 18; refine (isL_any _ _).mono ?_; rintro e w' ⟨rfl, rfl⟩)
              | (go_at_call 19; refine (isD_any _ _).mono ?_; rintro e w' ⟨rfl, rfl⟩)
              | (at_builtin; refine wpList_append_own _ rfl (.tmp 30) (.tmp 32) 35 rfl w.heap.size 5 i0 (.int .u8 0) 1 1 Try.underlying35 hi hz0 hz1 hz2 rfl (by decide) (.slice a0 out.length c0) out.length (bc out) rfl (hown.alloc _) ⟨wr.heap.size, 0, none⟩ 1 1 [.int .u8 ((s[pos]'hp).toNat : Int)] rfl rfl (cell_one_new _ _ _) (by intro u hu; simp at hu; subst hu; rfl) (by unfold maxLen; omega) (by omega) (by simp; omega) ?_; intro v2 w2 hown3 hgrow2 _))
            have hbw2 := pushed2 hown hbw hgrow2
            clear hgrow2 hown
            go_roundw
            case rel => exact rel2_one (by go_num) hp HR.out (by simp) (by simp) hown3 hbw2
            case measure => simp [intOf]; omega
      | false =>
        rw [step_gap _ _ ht] at hb
        have HR := Lib.hid hb
        clear hb
        simp only [takes, Bool.or_eq_false_iff] at ht
        obtain ⟨h, hd⟩ := ht
        cases out with
        | nil =>
          clear hd
          cases h' : isD (s[pos]'hp).toNat
          all_goals
            go_wp2_with (first
              | (go_at_call 18; refine (isL_any _ _).mono ?_; rintro e w' ⟨rfl, rfl⟩)
              | (go_at_call 19; refine (isD_any _ _).mono ?_; rintro e w' ⟨rfl, rfl⟩))
            go_roundw
            case rel => exact ⟨pos + 1, [], false, hp, by go_num, HR.out, hown, rfl, hbw⟩
            case measure => simp [intOf]; omega
        | cons x xs =>
          have h' : isD (s[pos]'hp).toNat = false := by simpa using hd
          clear hd
          simp only [List.length_cons] at hown hlen2
          go_wp2_with (first
              | (go_at_call 18; refine (isL_any _ _).mono ?_; rintro e w' ⟨rfl, rfl⟩)
              | (go_at_call 19; refine (isD_any _ _).mono ?_; rintro e w' ⟨rfl, rfl⟩))
          go_roundw
          case rel => exact ⟨pos + 1, x :: xs, true, hp, by go_num, HR.out, hown, rfl, hbw⟩
          case measure => simp [intOf]; omega
    · obtain rfl : pos = s.size := by omega
      have hall : s.data.toList.take s.size = s.data.toList := List.take_of_length_le (by rw [len_eq]; exact Nat.le_refl _)
      rw [hall] at hrun
      have HE := Lib.hid (show ens s.data.toList = if out.isEmpty = true then [95] else out by unfold ens; rw [hrun])
      clear hrun hall
      rcases out with _ | ⟨x, xs⟩
      · go_wp2
        go_ret
        exact ⟨by rw [HE.out]; rfl, hbw⟩
      · have hcv := conv hown (by simp)
        simp only [List.length_cons] at hcv
        go_wp2
        go_ret
        exact ⟨by rw [HE.out]; rfl, hbw⟩
end Go.Proofs.Yteoggommgbajnaa.ens
