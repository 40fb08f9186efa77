/- For every string s the law FnEnsured returns true: EnsureValidIdentifier and the reference make the same name. No condition. -/
import Derived.Test.YteoggommgbajnaaEnsSpec
import Derived.Test.YteoggommgbajnaaFnEnsuredAgain
import Derived.SizedLaws
import Derived.ChangeMaps5
namespace Go.Proofs.Yteoggommgbajnaa.fnEnsured
open Go.ChangeShapes Go.WideShapes Go.ChangeAt Go.RowKit
open Go.ChangeMaps (open_string shut_string)

theorem walk (s : ByteArray) (hs : s.size ≤ 140737488351232) (w : World) :
    Calls Try.prog 3 #[.string s] w fun e w' => e = .returned (.bool true) ∧ Below w.heap.size w w' := by
  go_enter Try.func3, Try.ntmps3
  go_wp2_with fail
  refine (fnEnsuredAgain.impl_any s (by omega) _).mono ?_
  rintro e w' ⟨rfl, hb⟩
  go_wp2_with fail
  refine (ens.ensured_any s (by omega) _).mono ?_
  rintro e w2 ⟨rfl, hb2⟩
  generalize ens.ens s.data.toList = l
  go_wp2_with fail
  go_ret
  exact ⟨rfl, hb.trans (hb2.mono hb.size)⟩

theorem own : ownKnob Try.prog.godebug = none := by kernel_rfl

set_option maxRecDepth 100000 in
theorem lifted (os : Os) (started : os.Started) (H : Type) (enc : TypeId × Value → H) :
    ReturnsInHanded {} Try.checked os 3 .any (Rows.fnEnsuredSpec.pre6 enc Try.prog Try.f3 Rows.fnEnsuredRow.domain false) (Rows.fnEnsuredSpec.post enc Try.prog Try.f3 false true false false) := by
  refine returnsInHanded_of_change_sized (C := Try.checked) own started (by kernel_rfl) Try.func3
    (ChangeSpec.witness6 (enc := enc) (C := Try.checked) false ⟨#[], #[.string ⟨#[]⟩], []⟩ 8 (by kernel_rfl) (by kernel_rfl) (by kernel_rfl) (by kernel_rfl)) ?_
  intro W base args ds gs before hval0 hW hcnd0 hsz0 _
  have hsz : (DataW.weightsEach Try.prog (Try.f3.params.toList ++ Rows.fnEnsuredSpec.plain.varTypes Try.prog) (ds ++ gs)).all (· ≤ reachBytes) = true := hsz0
  clear hcnd0 hsz0
  have hval : ∀ (j : Nat) t v, Try.f3.params[j]? = some t → args[j]? = some v → Value.okWide Try.prog W .any base t v := hval0
  have hW' := hW
  obtain ⟨p, q, hA0, hV, rfl, _, _⟩ := hW
  have hA : DataW.TrodAll enc Try.prog W 0 (fun _ => true) true Try.f3.params.toList args.toList ds p := hA0
  rw [Try.params3] at hA hval hsz
  obtain ⟨v0, d0, rfl, rfl, h0⟩ := trodAll_one hA
  obtain ⟨rfl, rfl⟩ := trodVars_none hV
  obtain ⟨s, rfl, rfl, rfl, hs⟩ := open_string Try.underlying9 (hval 0 9 v0 rfl rfl) h0
  clear hA0 hval0
  simp only [List.append_nil] at hW'
  have e1 : s.size = s.data.size := rfl
  have e2 : s.data.toList.length = s.data.size := Array.length_toList
  have hlim : s.size ≤ 140737488351232 := by
    have h1 := sized_string hsz (j := 0) (t := 9) rfl rfl
    have e3 : reachBytes = 140737488351232 := by decide
    omega
  refine (walk s hlim W).mono fun e W' ⟨he, hnx⟩ => ?_
  subst he
  exact ⟨_, rfl, _, _, _, [], [], [], hW', trodAll_mk1 (shut_bool Try.underlying4 true), trodAll_mk1 (shut_string Try.underlying9 hs), rfl, hnx.frame _, fun h => by cases h⟩

theorem proved : Rows.FnEnsuredSaid :=
  OpenClaim.holds_of_wide 3 Try.f3 rfl rfl rfl rfl rfl rfl rfl ⟨rfl, rfl, rfl, rfl, rfl⟩ rfl rfl rfl rfl rfl (by kernel_rfl) Try.func3 (by kernel_rfl)
    (of_decide_eq_true (by kernel_rfl)) (by unfold Func.isWrapper; first | (rw [if_pos (by decide +kernel)]; kernel_rfl) | (rw [if_neg (by decide +kernel)]; exact ⟨rfl, rfl⟩))
    (fun os started H enc _ => lifted os started H enc)
#print axioms proved
end Go.Proofs.Yteoggommgbajnaa.fnEnsured
