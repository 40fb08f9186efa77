/- For every bool and all ints the law FnNamesLonger returns true: a greater number has no shorter name. No condition; the two package variables hold what the program's text lays (the card ties them). -/
import Derived.Test.YteoggommgbajnaaDoorLaid
namespace Go.Proofs.YteoggommgbajnaaDoor.fnNamesLonger
open Go.ChangeShapes Go.WideShapes Go.ChangeAt Go.RowKit
open nm

set_option maxHeartbeats 400000 in
theorem walk_two (css : Bool) (n k : Nat) (hn : n ≤ 9223372036854775807) (hk : k ≤ 9223372036854775807) (hnk : n ≤ k) (w : World) (hL : Laid css w) :
    Calls Tryd.prog 6 #[.bool css, .int .i64 (n : Int), .int .i64 (k : Int)] w fun e w' => e = .returned (.bool true) ∧ Below w.heap.size w w' := by
  have HI := Lib.hid (fun W hW => implName_any css n hn W hW)
  have HK := Lib.hid (fun W hW => implName_any css k hk W hW)
  have HL := Lib.hid hL
  have hne : (name (headL css) (tailL css) n).isEmpty = false := by rfl
  have hR := name_len_mono (headL css) (tailL css) n k hnk
  clear hL
  generalize name (headL css) (tailL css) n = R at *
  generalize name (headL css) (tailL css) k = R2 at *
  have hs : (⟨R.toArray⟩ : ByteArray).size ≤ (⟨R2.toArray⟩ : ByteArray).size := by show R.toArray.size ≤ R2.toArray.size; simpa using hR
  go_enter Tryd.func6, Tryd.ntmps6
  go_wp2_with fail
  refine (HI.out _ HL.out).mono ?_
  rintro e w1 ⟨rfl, hb1⟩
  have HL1 := Lib.hid (HL.out.below hb1 (Nat.le_refl _))
  go_wp2_with fail
  refine (HK.out _ HL1.out).mono ?_
  rintro e w2 ⟨rfl, hb2⟩
  have HL2 := Lib.hid (HL1.out.below hb2 (Nat.le_refl _))
  go_wp2_with fail
  refine (HI.out _ HL2.out).mono ?_
  rintro e w3 ⟨rfl, hb3⟩
  go_wp2_with fail
  go_ret
  have := hb1.size
  have := hb2.size
  exact ⟨rfl, (hb1.trans (hb2.mono (by omega))).trans (hb3.mono (by omega))⟩
theorem walk (css : Bool) (a : Int) (ha : (Lit.int .i64 a).wf = true) (b : Int) (hb : (Lit.int .i64 b).wf = true) (w : World) (hL : ∀ css, Laid css w) :
    Calls Tryd.prog 6 #[.bool css, .int .i64 a, .int .i64 b] w fun e w' => e = .returned (.bool true) ∧ Below w.heap.size w w' := by
  by_cases h : a < 0
  · go_enter Tryd.func6, Tryd.ntmps6
    go_wp2
    go_ret
    exact ⟨rfl, Below.refl _ _⟩
  · by_cases h2 : b < a
    · go_enter Tryd.func6, Tryd.ntmps6
      go_wp2
      go_ret
      exact ⟨rfl, Below.refl _ _⟩
    · obtain ⟨n, rfl⟩ : ∃ n : Nat, a = (n : Int) := ⟨a.toNat, by omega⟩
      obtain ⟨k, rfl⟩ : ∃ k : Nat, b = (k : Int) := ⟨b.toNat, by omega⟩
      exact walk_two css n k (nat_le ha) (nat_le hb) (by omega) w (hL css)

set_option maxRecDepth 100000 in
theorem lifted (os : Os) (started : os.Started) (H : Type) (enc : TypeId × Value → H) :
    ReturnsInHanded {} Tryd.checked os 6 .any (fun w args => (Rows.fnNamesLongerSpec.pre enc Tryd.prog Tryd.f6 [] false w args ∧ laidMetH Tryd.prog Rows.fnNamesLongerRow.laid w) ∧ sizedMet enc Tryd.prog Tryd.f6 (OpenSpec.ofChange Rows.fnNamesLongerSpec) false w args)
      (Rows.fnNamesLongerSpec.post enc Tryd.prog Tryd.f6 false true false false) := by
  refine returnsInHanded_of_change_and (C := Tryd.checked) (X := fun w _ => laidMetH Tryd.prog Rows.fnNamesLongerRow.laid w) (fun _ _ _ hh h => h.of_heap hh) nm.own started (by kernel_rfl) Tryd.func6
    (ChangeSpec.witness_shaped (enc := enc) (C := Tryd.checked) (os := os) (X := fun w _ => laidMetH Tryd.prog Rows.fnNamesLongerRow.laid w) false (World.doorLaid Tryd.prog 400 os) #[.bool false, .int .i64 0, .int .i64 0] 8 rfl (nm.shaped os _) (by kernel_rfl) (by kernel_rfl) (by kernel_rfl) (nm.met_two os _)) ?_
  intro W base args ds gs before hval0 hW _ _ hL _
  have hval : ∀ (j : Nat) t v, Tryd.f6.params[j]? = some t → args[j]? = some v → Value.okWide Tryd.prog W .any base t v := hval0
  have hW' := hW
  obtain ⟨p, q, hA0, hV, rfl, hfz, hnd⟩ := hW
  have hA : DataW.TrodAll enc Tryd.prog W 0 (fun _ => true) true Tryd.f6.params.toList args.toList ds p := hA0
  rw [Tryd.params6] at hA hval
  obtain ⟨v0, vs0, d0, ds0, p0, q0, hargs, rfl, rfl, h0, r0⟩ := trodAll_cons hA
  obtain ⟨v1, vs1, d1, ds1, p1, q1, rfl, rfl, rfl, h1, r1⟩ := trodAll_cons r0
  obtain ⟨v2, vs2, d2, ds2, p2, q2, rfl, rfl, rfl, h2, r2⟩ := trodAll_cons r1
  obtain ⟨rfl, rfl, rfl⟩ := trodAll_nil r2
  obtain rfl : args = #[v0, v1, v2] := by cases args; simp_all
  obtain ⟨rfl, rfl⟩ := trodVars_none hV
  obtain ⟨a0, rfl, rfl, rfl⟩ := open_bool Tryd.underlying4 (hval 0 4 v0 rfl rfl) h0
  obtain ⟨a1, rfl, rfl, rfl, w1⟩ := open_int Tryd.underlying3 (hval 1 3 v1 rfl rfl) h1
  obtain ⟨a2, rfl, rfl, rfl, w2⟩ := open_int Tryd.underlying3 (hval 2 3 v2 rfl rfl) h2
  clear hA0 hval0
  simp only [List.append_nil] at hW'
  refine (walk a0 a1 w1 a2 w2 W (nm.of_two hL)).mono fun e W' ⟨he, hnx⟩ => ?_
  subst he
  exact ⟨_, rfl, _, _, _, [], [], [], hW', trodAll_mk1 (shut_bool Tryd.underlying4 true), (trodAll_cons_mk (shut_bool Tryd.underlying4 _) (trodAll_cons_mk (shut_int Tryd.underlying3 w1) (trodAll_cons_mk (shut_int Tryd.underlying3 w2) trodAll_mk0))), rfl, hnx.frame _, fun h => by cases h⟩

theorem said : Rows.FnNamesLongerSaid :=
  OpenClaim.holds_of_wide 6 Tryd.f6 rfl rfl rfl rfl rfl rfl rfl ⟨rfl, rfl, rfl, rfl, rfl⟩ rfl rfl rfl rfl rfl (by kernel_rfl) Tryd.func6 (by kernel_rfl)
    (of_decide_eq_true (by kernel_rfl)) (by unfold Func.isWrapper; first | (rw [if_pos (by decide +kernel)]; kernel_rfl) | (rw [if_neg (by decide +kernel)]; exact ⟨rfl, rfl⟩))
    (fun os started H enc _ => lifted os started H enc)

theorem plain (f : FuncId) (fn : Func) (hf : Tryd.pinned.checked.prog.funcNamed "nameplough/laws.FnNamesLonger" = some f) (hfn : Tryd.pinned.checked.prog.funcs[f]? = some fn) :
    false = Tryd.pinned.checked.prog.looks [] ∧ ∀ (j : Nat) t, fn.params[j]? = some t → Tryd.pinned.checked.prog.wantsStandIn t = false := by
  obtain rfl : f = 6 := Option.some.inj ((show Tryd.prog.funcNamed "nameplough/laws.FnNamesLonger" = some 6 by kernel_rfl).symm.trans hf) |>.symm
  obtain rfl : fn = Tryd.f6 := (Option.some.inj (Tryd.func6.symm.trans hfn)).symm
  refine ⟨by kernel_rfl, fun j t ht => ?_⟩
  rw [Tryd.params6] at ht
  have hm := Array.mem_of_getElem? ht
  simp at hm
  rcases hm with rfl | rfl
  all_goals first | exact (show Tryd.prog.wantsStandIn 4 = false by kernel_rfl) | exact (show Tryd.prog.wantsStandIn 3 = false by kernel_rfl)

theorem card : Rows.FnNamesLongerCardSaid :=
  Claim7.holds_tied_plain_at .later [] _ _ _ _ said (fun _ h => by cases h) (by kernel_rfl) (fun _ h => by cases h) fnNamesLonger_row_tie rfl ⟨rfl, rfl⟩ (by kernel_rfl) rfl plain (by kernel_rfl)
#print axioms card
end Go.Proofs.YteoggommgbajnaaDoor.fnNamesLonger
