/- What the two functions on white space compute: js_ast.IsWhitespace and spec.IsSpace return the same bool, isSp. No condition. -/
import Derived.Test.YteoggommgbajnaaRows
import Derived.WalkKit
import Derived.ProofKit
import Derived.OpenShut
import Derived.Lib.Hide
namespace Go.Proofs.Yteoggommgbajnaa.sp
open Go.ChangeShapes Go.WideShapes Go.ChangeAt Go.RowKit

def tab : List Int := [9, 11, 12, 32, 160, 5760, 8239, 8287, 12288, 65279]
def isSp (p : Int) : Bool := tab.contains p || (decide (8192 ≤ p) && decide (p ≤ 8202))

theorem isSp_iff (p : Int) : isSp p = true ↔ (p = 9 ∨ p = 11 ∨ p = 12 ∨ p = 32 ∨ p = 160 ∨ p = 5760 ∨ p = 8239 ∨ p = 8287 ∨ p = 12288 ∨ p = 65279) ∨ (8192 ≤ p ∧ p ≤ 8202) := by
  simp [isSp, tab, or_assoc]

theorem ret_bool {a b : Bool} (h : a = b) : Ending.returned (.bool a) = .returned (.bool b) := by rw [h]
theorem isSp_yes (p : Int) (h : (p = 9 ∨ p = 11 ∨ p = 12 ∨ p = 32 ∨ p = 160 ∨ p = 5760 ∨ p = 8239 ∨ p = 8287 ∨ p = 12288 ∨ p = 65279) ∨ (8192 ≤ p ∧ p ≤ 8202)) : true = isSp p := ((isSp_iff p).2 h).symm
theorem isSp_no (p : Int) (h : ¬ ((p = 9 ∨ p = 11 ∨ p = 12 ∨ p = 32 ∨ p = 160 ∨ p = 5760 ∨ p = 8239 ∨ p = 8287 ∨ p = 12288 ∨ p = 65279) ∨ (8192 ≤ p ∧ p ≤ 8202))) : false = isSp p := by
  cases e : isSp p with
  | false => rfl
  | true => exact absurd ((isSp_iff p).1 e) h

set_option maxHeartbeats 400000 in
theorem ws_any (p : Int) (w : World) :
    Calls Try.prog 20 #[.int .i32 p] w fun e w' => e = .returned (.bool (isSp p)) ∧ w = w' := by
  go_enter Try.func20, Try.ntmps20
  go_wp2
  all_goals
    go_ret
    refine ⟨ret_bool ?_, rfl⟩
    simp only [beq_iff_eq, beq_eq_false_iff_ne] at *
    first | (refine isSp_yes p ?_; omega) | (refine isSp_no p ?_; omega)

theorem impl_any (p : Int) (w : World) :
    Calls Try.prog 10 #[.int .i32 p] w fun e w' => e = .returned (.bool (isSp p)) ∧ w = w' := by
  go_enter Try.func10, Try.ntmps10
  go_wp2_with (go_at_call 20; refine (ws_any _ _).mono ?_; rintro e w' ⟨rfl, rfl⟩)
  go_ret
  exact ⟨rfl, rfl⟩

def arr : Obj := .cells #[.int .i32 9, .int .i32 11, .int .i32 12, .int .i32 32, .int .i32 160, .int .i32 5760, .int .i32 8239, .int .i32 8287, .int .i32 12288, .int .i32 65279] 21

theorem arr_cell (w : World) (k : Nat) (hk : k < 10) : (w.alloc arr).cell? ⟨w.heap.size, k, none⟩ = some (.int .i32 (tab.getD k 0)) := by
  have : k = 0 ∨ k = 1 ∨ k = 2 ∨ k = 3 ∨ k = 4 ∨ k = 5 ∨ k = 6 ∨ k = 7 ∨ k = 8 ∨ k = 9 := by omega
  rcases this with rfl | rfl | rfl | rfl | rfl | rfl | rfl | rfl | rfl | rfl <;> simp [arr, tab, go_sem]

theorem tab_mem (k : Nat) (hk : k < 10) (p : Int) (h : p = tab.getD k 0) : true = isSp p := by
  refine isSp_yes p (Or.inl ?_)
  have : k = 0 ∨ k = 1 ∨ k = 2 ∨ k = 3 ∨ k = 4 ∨ k = 5 ∨ k = 6 ∨ k = 7 ∨ k = 8 ∨ k = 9 := by omega
  rcases this with rfl | rfl | rfl | rfl | rfl | rfl | rfl | rfl | rfl | rfl <;> simp [tab] at h <;> simp [h]

theorem tab_not (p : Int) (h : ∀ j, j < 10 → tab.getD j 0 ≠ p) : isSp p = (decide (8192 ≤ p) && decide (p ≤ 8202)) := by
  have h0 := h 0 (by omega); have h1 := h 1 (by omega); have h2 := h 2 (by omega); have h3 := h 3 (by omega); have h4 := h 4 (by omega)
  have h5 := h 5 (by omega); have h6 := h 6 (by omega); have h7 := h 7 (by omega); have h8 := h 8 (by omega); have h9 := h 9 (by omega)
  simp [tab] at h0 h1 h2 h3 h4 h5 h6 h7 h8 h9
  unfold isSp tab
  simp [Ne.symm h0, Ne.symm h1, Ne.symm h2, Ne.symm h3, Ne.symm h4, Ne.symm h5, Ne.symm h6, Ne.symm h7, Ne.symm h8, Ne.symm h9]

theorem spec_any (p : Int) (w : World) :
    Calls Try.prog 11 #[.int .i32 p] w fun e w' => e = .returned (.bool (isSp p)) ∧ Grown w w' := by
  go_enter Try.func11, Try.ntmps11
  go_wp2
  go_loop [7] (fun i => ∃ k : Nat, k ≤ 10 ∧ i = .int .i64 k ∧ Hid (∀ j, j < k → tab.getD j 0 ≠ p)) (fun i => 10 - (intOf i).toNat)
  case atStart => exact ⟨0, by omega, rfl, fun j hj => absurd hj (by omega)⟩
  case round =>
    obtain ⟨k, hk, rfl, hno⟩ := hrel
    by_cases hlt : k < 10
    · have hc := arr_cell w k hlt
      unfold arr at hc
      have hq := tab_mem k hlt p
      have HQ := Lib.hid hq
      clear hq
      have HN : Hid (p ≠ tab.getD k 0 → ∀ j, j < k + 1 → tab.getD j 0 ≠ p) := by
        intro hne j hj
        by_cases e : j = k
        · subst e; exact fun h => hne h.symm
        · exact hno.out j (by omega)
      clear hno
      generalize tab.getD k 0 = q at hc HQ HN
      go_wp2
      · go_ret
        have h : (p == q) = true := by assumption
        exact ⟨ret_bool (HQ.out (by simpa using h)), by repeat (first | exact Grown.refl _ | apply Grown.drew | apply Grown.alloc)⟩
      · have h : (p == q) = false := by assumption
        go_round
        case rel => exact ⟨k + 1, by omega, by go_num, HN.out (by simpa using h)⟩
        case measure => simp [intOf]; omega
    · obtain rfl : k = 10 := by omega
      have H := tab_not p hno.out
      have HH := Lib.hid H
      clear H
      go_wp2
      all_goals
        go_ret
        refine ⟨ret_bool ?_, by repeat (first | exact Grown.refl _ | apply Grown.drew | apply Grown.alloc)⟩
        rw [HH.out]
        first | (simp [*]; done) | (simp; omega)
end Go.Proofs.Yteoggommgbajnaa.sp
