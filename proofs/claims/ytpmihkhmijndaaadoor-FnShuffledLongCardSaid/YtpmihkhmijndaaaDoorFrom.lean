/- What spec.index and spec.IsFrom answer where the sign is there. -/
import Derived.Test.YtpmihkhmijndaaaDoorNameSpec
namespace Go.Proofs.YtpmihkhmijndaaaDoor.nm
open Go.ChangeShapes Go.WideShapes Go.ChangeAt Go.RowKit

def SomeNat (w : World) (e : Ending) (w' : World) : Prop := ∃ k : Nat, e = .returned (.int .i64 (k : Int)) ∧ w = w'
theorem index_mem (s : ByteArray) (hs : s.size ≤ 9223372036854775807) (c : UInt8) (hc : c ∈ s.data.toList) (w : World) :
    Calls Tryd.prog 15 #[.string s, .int .u8 (c.toNat : Int)] w (SomeNat w) := by
  go_enter Tryd.func15, Tryd.ntmps15
  go_wp2
  go_loop [8] (fun i => ∃ k : Nat, k ≤ s.size ∧ i = .int .i64 (k : Int) ∧ Hid (∀ j, j < k → s.data.toList.getD j 0 ≠ c)) (fun i => s.size - (intOf i).toNat)
  case atStart => exact ⟨0, Nat.zero_le _, rfl, fun j hj => absurd hj (by omega)⟩
  case round =>
    obtain ⟨k, hk, rfl, hno⟩ := hrel
    by_cases hlt : k < s.size
    · by_cases he : (s[k]'hlt) = c
      · have hq : (((s[k]'hlt).toNat : Int) == (c.toNat : Int)) = true := by simp [he]
        clear he
        go_wp2
        go_ret
        exact ⟨k, rfl, rfl⟩
      · have hq : (((s[k]'hlt).toNat : Int) == (c.toNat : Int)) = false := by
          simp only [beq_eq_false_iff_ne]
          intro e
          exact he (UInt8.toNat_inj.1 (by omega))
        have HN : Hid (∀ j, j < k + 1 → s.data.toList.getD j 0 ≠ c) := by
          intro j hj
          by_cases e : j = k
          · subst e; rw [← getD_eq s j hlt]; exact he
          · exact hno.out j (by omega)
        clear he hno
        go_wp2
        go_round
        case rel => exact ⟨k + 1, by omega, by go_num, HN⟩
        case measure => simp [intOf]; omega
    · exfalso
      obtain ⟨j, hj, e⟩ := List.getElem_of_mem hc
      rw [len_eq] at hj
      refine hno.out j (by omega) ?_
      rw [List.getD_eq_getElem?_getD, List.getElem?_eq_getElem (by rw [len_eq]; exact hj), e]
      rfl

set_option maxHeartbeats 1000000 in
theorem isFrom_any (x : UInt8) (r : List UInt8) (H T : ByteArray) (hH : H.size ≤ 1000) (hT : T.size ≤ 1000) (hr : r.length ≤ 1000) (hx : x ∈ H.data.toList) (ht : ∀ c ∈ r, c ∈ T.data.toList) (w : World) :
    Calls Tryd.prog 12 #[.string ⟨(x :: r).toArray⟩, .string H, .string T] w fun e w' => e = .returned (.bool true) ∧ w = w' := by
  obtain ⟨s, hs⟩ : ∃ s : ByteArray, s = ⟨(x :: r).toArray⟩ := ⟨_, rfl⟩
  rw [← hs]
  have hl : s.data.toList = x :: r := by rw [hs]
  have hsz : s.size = r.length + 1 := by rw [← len_eq, hl]; rfl
  have h0 : 0 < s.size := by omega
  have hz : s.size ≤ 1001 := by omega
  have hne : s.toList.isEmpty = false := by rw [hs, ByteArray.toList_mk]; rfl
  have hne2 : ¬ s.toList = [] := by rw [hs, ByteArray.toList_mk]; simp
  have HX := Lib.hid (show (s[0]'h0) = x by rw [getD_eq, hl]; rfl)
  have HR := Lib.hid (show ∀ k (hk : k < s.size), 0 < k → (s[k]'hk) ∈ T.data.toList by
    intro k hk hp
    rw [getD_eq, hl]
    rcases k with _ | k
    · omega
    · refine ht _ ?_
      rw [List.getD_cons_succ, List.getD_eq_getElem?_getD, List.getElem?_eq_getElem (by omega)]
      exact List.getElem_mem _)
  have HI := Lib.hid (fun W => index_mem H (by omega) x hx W)
  have HH := Lib.hid hl
  have HS := Lib.hid hs
  have HZ := Lib.hid hsz
  rw [← HX.out] at HI
  clear hl hs hsz HX hx ht
  go_enter Tryd.func12, Tryd.ntmps12
  go_wp2_with fail
  refine (HI.out _).mono ?_
  rintro e w1 ⟨k0, rfl, rfl⟩
  clear HI
  go_wp2_with fail
  go_loop [7] (fun i => ∃ k : Nat, 0 < k ∧ k ≤ s.size ∧ i = .int .i64 (k : Int)) (fun i => s.size - (intOf i).toNat)
  case atStart => exact ⟨1, by omega, by omega, rfl⟩
  case round =>
    obtain ⟨k, hk0, hk, rfl⟩ := hrel
    by_cases hlt : k < s.size
    · have HI := Lib.hid (fun W => index_mem T (by omega) (s[k]'hlt) (HR.out k hlt hk0) W)
      go_wp2_with fail
      refine (HI.out _).mono ?_
      rintro e w1 ⟨k1, rfl, rfl⟩
      go_wp2_with fail
      go_round
      case rel => exact ⟨k + 1, by omega, by omega, by go_num⟩
      case measure => simp [intOf]; omega
    · go_wp2_with fail
      go_ret
      exact ⟨rfl, rfl⟩

theorem nat_le {n : Nat} (h : (Lit.int .i64 (n : Int)).wf = true) : n ≤ 9223372036854775807 := by
  simp [Lit.wf] at h
  omega
theorem from_name (css : Bool) (n : Nat) (hn : n ≤ 9223372036854775807) (w : World) :
    Calls Tryd.prog 12 #[.string ⟨(name (headL css) (tailL css) n).toArray⟩, .string (headB css), .string (tailB css)] w fun e w' => e = .returned (.bool true) ∧ w = w' := by
  obtain ⟨h1, h2, h3, h4⟩ := sizes css
  have hl : (name (headL css) (tailL css) n).length ≤ 64 := name_len _ _ (by unfold tailL; rw [len_eq]; exact h3) n (by omega)
  have e : name (headL css) (tailL css) n = (headL css).getD (n % (headL css).length) 0 :: tl (tailL css) (n / (headL css).length) := rfl
  rw [e] at hl ⊢
  rw [List.length_cons] at hl
  have hx := getD_mem (headL css) (n % (headL css).length) (Nat.mod_lt _ (by unfold headL; rw [len_eq]; exact h1))
  have ht := tl_mem (tailL css) (by unfold tailL; rw [len_eq]; omega) (n / (headL css).length)
  exact isFrom_any _ _ _ _ h2 h4 (Nat.le_trans (Nat.le_of_succ_le hl) (by decide)) hx ht w
end Go.Proofs.YtpmihkhmijndaaaDoor.nm
