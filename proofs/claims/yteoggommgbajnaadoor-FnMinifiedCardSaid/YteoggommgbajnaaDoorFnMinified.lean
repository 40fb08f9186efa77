/- For every int the law FnMinified returns true: NextMinifiedName gives the names of the numbers from 0 on. No condition; the two package variables hold what the program's text lays (the card ties them). -/
import Derived.Test.YteoggommgbajnaaDoorLaid
import Derived.Test.YteoggommgbajnaaDoorMin
namespace Go.Proofs.YteoggommgbajnaaDoor.fnMinified
open Go.ChangeShapes Go.WideShapes Go.ChangeAt Go.RowKit
open nm

theorem row_form {w : World} {B m : Nat} {v : Value} (h : w.ownsRow B 9 1 v m (strsOf m)) (hm : 0 < m) :
    ∃ g c, v = .slice (some ⟨g, 0, none⟩) m c ∧ g < w.heap.size ∧ ∀ k, k < m → w.cell? ⟨g, k, none⟩ = some (.string (nameS k)) := by
  obtain ⟨g, c, rfl, hlt⟩ : ∃ g c, v = .slice (some ⟨g, 0, none⟩) m c ∧ g < w.heap.size := by
    rcases h.2 with ⟨_, h0⟩ | ⟨g, cap, cur, rfl, hB, hh, _⟩
    · omega
    · exact ⟨g, cap, rfl, (Array.getElem?_eq_some_iff.1 hh).1⟩
  refine ⟨g, c, rfl, hlt, fun k hk => ?_⟩
  have := h.cells (g := g) rfl k (.string (nameS k)) (by simp [strsOf, hk])
  have hadd : (⟨g, 0, none⟩ : Addr).add k = ⟨g, k, none⟩ := by unfold Addr.add; split <;> simp_all
  rw [hadd] at this
  exact this
set_option maxHeartbeats 1000000 in
theorem walk_in (m : Nat) (h1 : 1 ≤ m) (h2 : m ≤ 5000) (w : World) (hL : Laid false w) :
    Calls Tryd.prog 8 #[.int .i64 (m : Int)] w fun e w' => e = .returned (.bool true) ∧ Below w.heap.size w w' := by
  have HL := Lib.hid hL
  have HM := Lib.hid (minified_any m h2 w hL)
  clear hL
  go_enter Tryd.func8, Tryd.ntmps8
  go_wp2_with fail
  refine HM.out.mono ?_
  rintro e w1 ⟨v, rfl, hown, hb1⟩
  obtain ⟨g, c, rfl, hg, hcs⟩ := row_form hown (by omega)
  have HC := Lib.hid hcs
  have HL1 := Lib.hid (HL.out.below hb1 (Nat.le_refl _))
  clear HM hcs hown
  go_wp2_with fail
  go_loopw [16] (fun i wr => ∃ k : Nat, k ≤ m ∧ i = .int .i64 (k : Int) ∧ Below w1.heap.size w1 wr) (fun i _ => m - (intOf i).toNat)
  case atStart => exact ⟨0, Nat.zero_le _, rfl, Below.refl _ _⟩
  case round =>
    obtain ⟨k, hk, rfl, hbw⟩ := hrel
    have hsz := hb1.size
    have hsz2 := hbw.size
    by_cases hlt : k < m
    · have hx := (hbw.cell (p := ⟨g, k, none⟩) hg).trans (HC.out k hlt)
      have HI := Lib.hid (implName_any false k (by omega) wr (HL1.out.below hbw (Nat.le_refl _)))
      change Hid (Calls Tryd.prog 9 #[.bool false, .int .i64 (k : Int)] wr fun e w' => e = .returned (.string (nameS k)) ∧ Below wr.heap.size wr w') at HI
      generalize nameS k = R at *
      go_wp2_with fail
      refine HI.out.mono ?_
      rintro e w2 ⟨rfl, hb2⟩
      have hbw2 := hbw.trans (hb2.mono hsz2)
      clear HI hx hb2 hbw
      go_wp2_with fail
      go_roundw
      case rel => exact ⟨k + 1, by omega, by go_num, hbw2⟩
      case measure => simp [intOf]; omega
    · go_wp2_with fail
      go_ret
      exact ⟨rfl, hb1.trans (hbw.mono hsz)⟩
theorem walk (a : Int) (ha : (Lit.int .i64 a).wf = true) (w : World) (hL : ∀ css, Laid css w) :
    Calls Tryd.prog 8 #[.int .i64 a] w fun e w' => e = .returned (.bool true) ∧ Below w.heap.size w w' := by
  by_cases h : a < 1
  · go_enter Tryd.func8, Tryd.ntmps8
    go_wp2
    go_ret
    exact ⟨rfl, Below.refl _ _⟩
  · by_cases h2 : 5000 < a
    · go_enter Tryd.func8, Tryd.ntmps8
      go_wp2
      go_ret
      exact ⟨rfl, Below.refl _ _⟩
    · obtain ⟨n, rfl⟩ : ∃ n : Nat, a = (n : Int) := ⟨a.toNat, by omega⟩
      clear ha
      exact walk_in n (by omega) (by omega) w (hL false)

set_option maxRecDepth 100000 in
theorem lifted (os : Os) (started : os.Started) (H : Type) (enc : TypeId × Value → H) :
    ReturnsInHanded {} Tryd.checked os 8 .any (fun w args => (Rows.fnMinifiedSpec.pre enc Tryd.prog Tryd.f8 [] false w args ∧ laidMetH Tryd.prog Rows.fnMinifiedRow.laid w) ∧ sizedMet enc Tryd.prog Tryd.f8 (OpenSpec.ofChange Rows.fnMinifiedSpec) false w args)
      (Rows.fnMinifiedSpec.post enc Tryd.prog Tryd.f8 false true false false) := by
  refine returnsInHanded_of_change_and (C := Tryd.checked) (X := fun w _ => laidMetH Tryd.prog Rows.fnMinifiedRow.laid w) (fun _ _ _ hh h => h.of_heap hh) nm.own started (by kernel_rfl) Tryd.func8
    (ChangeSpec.witness_shaped (enc := enc) (C := Tryd.checked) (os := os) (X := fun w _ => laidMetH Tryd.prog Rows.fnMinifiedRow.laid w) false (World.doorLaid Tryd.prog 400 os) #[.int .i64 0] 8 rfl (nm.shaped os _) (by kernel_rfl) (by kernel_rfl) (by kernel_rfl) (nm.met_two os _)) ?_
  intro W base args ds gs before hval0 hW _ _ hL _
  have hval : ∀ (j : Nat) t v, Tryd.f8.params[j]? = some t → args[j]? = some v → Value.okWide Tryd.prog W .any base t v := hval0
  have hW' := hW
  obtain ⟨p, q, hA0, hV, rfl, hfz, hnd⟩ := hW
  have hA : DataW.TrodAll enc Tryd.prog W 0 (fun _ => true) true Tryd.f8.params.toList args.toList ds p := hA0
  rw [Tryd.params8] at hA hval
  obtain ⟨v0, vs0, d0, ds0, p0, q0, hargs, rfl, rfl, h0, r0⟩ := trodAll_cons hA
  obtain ⟨rfl, rfl, rfl⟩ := trodAll_nil r0
  obtain rfl : args = #[v0] := by cases args; simp_all
  obtain ⟨rfl, rfl⟩ := trodVars_none hV
  obtain ⟨a0, rfl, rfl, rfl, w0⟩ := open_int Tryd.underlying3 (hval 0 3 v0 rfl rfl) h0
  clear hA0 hval0
  simp only [List.append_nil] at hW'
  refine (walk a0 w0 W (nm.of_two hL)).mono fun e W' ⟨he, hnx⟩ => ?_
  subst he
  exact ⟨_, rfl, _, _, _, [], [], [], hW', trodAll_mk1 (shut_bool Tryd.underlying4 true), (trodAll_cons_mk (shut_int Tryd.underlying3 w0) trodAll_mk0), rfl, hnx.frame _, fun h => by cases h⟩

theorem said : Rows.FnMinifiedSaid :=
  OpenClaim.holds_of_wide 8 Tryd.f8 rfl rfl rfl rfl rfl rfl rfl ⟨rfl, rfl, rfl, rfl, rfl⟩ rfl rfl rfl rfl rfl (by kernel_rfl) Tryd.func8 (by kernel_rfl)
    (of_decide_eq_true (by kernel_rfl)) (by unfold Func.isWrapper; first | (rw [if_pos (by decide +kernel)]; kernel_rfl) | (rw [if_neg (by decide +kernel)]; exact ⟨rfl, rfl⟩))
    (fun os started H enc _ => lifted os started H enc)

theorem plain (f : FuncId) (fn : Func) (hf : Tryd.pinned.checked.prog.funcNamed "nameplough/laws.FnMinified" = some f) (hfn : Tryd.pinned.checked.prog.funcs[f]? = some fn) :
    false = Tryd.pinned.checked.prog.looks [] ∧ ∀ (j : Nat) t, fn.params[j]? = some t → Tryd.pinned.checked.prog.wantsStandIn t = false := by
  obtain rfl : f = 8 := Option.some.inj ((show Tryd.prog.funcNamed "nameplough/laws.FnMinified" = some 8 by kernel_rfl).symm.trans hf) |>.symm
  obtain rfl : fn = Tryd.f8 := (Option.some.inj (Tryd.func8.symm.trans hfn)).symm
  refine ⟨by kernel_rfl, fun j t ht => ?_⟩
  rw [Tryd.params8] at ht
  have hm := Array.mem_of_getElem? ht
  simp at hm
  subst hm
  exact (show Tryd.prog.wantsStandIn 3 = false by kernel_rfl)

theorem card : Rows.FnMinifiedCardSaid :=
  Claim7.holds_tied_plain_at .later [] _ _ _ _ said (fun _ h => by cases h) (by kernel_rfl) (fun _ h => by cases h) fnMinified_row_tie rfl ⟨rfl, rfl⟩ (by kernel_rfl) rfl plain (by kernel_rfl)
#print axioms card
end Go.Proofs.YteoggommgbajnaaDoor.fnMinified
