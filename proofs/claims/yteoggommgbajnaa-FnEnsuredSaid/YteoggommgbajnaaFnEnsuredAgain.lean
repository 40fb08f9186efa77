/- For every string s the law FnEnsuredAgain returns true: what EnsureValidIdentifier makes is not empty, and of it the same is made again. No condition. -/
import Derived.Test.YteoggommgbajnaaEnsWalk
import Derived.SizedLaws
import Derived.ChangeMaps5
namespace Go.Proofs.Yteoggommgbajnaa.fnEnsuredAgain
open Go.ChangeShapes Go.WideShapes Go.ChangeAt Go.RowKit
open Go.ChangeMaps (open_string shut_string)

theorem impl_any (s : ByteArray) (hs : s.size < 140737488355328) (w : World) :
    Calls Try.prog 8 #[.string s] w fun e w' => e = .returned (.string ⟨(ens.ens s.data.toList).toArray⟩) ∧ Below w.heap.size w w' := by
  go_enter Try.func8, Try.ntmps8
  go_wp2_with fail
  refine (ens.ensure_any s hs _).mono ?_
  rintro e w' ⟨rfl, hb⟩
  go_wp2_with fail
  go_ret
  exact ⟨rfl, hb⟩

set_option maxHeartbeats 400000 in
theorem walk (s : ByteArray) (hs : s.size ≤ 140737488351232) (w : World) :
    Calls Try.prog 4 #[.string s] w fun e w' => e = .returned (.bool true) ∧ Below w.heap.size w w' := by
  have hlen := ens.ens_len s.data.toList
  rw [ens.len_eq] at hlen
  have hne := ens.ens_ne s.data.toList
  have hee := ens.ens_ens s.data.toList
  have HI := Lib.hid (impl_any s (by omega) w)
  go_enter Try.func4, Try.ntmps4
  go_wp2_with fail
  refine HI.out.mono ?_
  rintro e w' ⟨rfl, hb⟩
  clear HI
  generalize ens.ens s.data.toList = l at *
  have HE := Lib.hid hee
  clear hee
  have h1 : l.isEmpty = false := by simpa using hne
  go_wp2_with fail
  refine (impl_any ⟨l.toArray⟩ (by show l.toArray.size < _; simp; omega) _).mono ?_
  rintro e w2 ⟨rfl, hb2⟩
  rw [HE.out]
  go_wp2_with fail
  go_ret
  exact ⟨rfl, hb.trans (hb2.mono hb.size)⟩

theorem own : ownKnob Try.prog.godebug = none := by kernel_rfl

set_option maxRecDepth 100000 in
theorem lifted (os : Os) (started : os.Started) (H : Type) (enc : TypeId × Value → H) :
    ReturnsInHanded {} Try.checked os 4 .any (Rows.fnEnsuredAgainSpec.pre6 enc Try.prog Try.f4 Rows.fnEnsuredAgainRow.domain false) (Rows.fnEnsuredAgainSpec.post enc Try.prog Try.f4 false true false false) := by
  refine returnsInHanded_of_change_sized (C := Try.checked) own started (by kernel_rfl) Try.func4
    (ChangeSpec.witness6 (enc := enc) (C := Try.checked) false ⟨#[], #[.string ⟨#[]⟩], []⟩ 8 (by kernel_rfl) (by kernel_rfl) (by kernel_rfl) (by kernel_rfl)) ?_
  intro W base args ds gs before hval0 hW hcnd0 hsz0 _
  have hsz : (DataW.weightsEach Try.prog (Try.f4.params.toList ++ Rows.fnEnsuredAgainSpec.plain.varTypes Try.prog) (ds ++ gs)).all (· ≤ reachBytes) = true := hsz0
  clear hcnd0 hsz0
  have hval : ∀ (j : Nat) t v, Try.f4.params[j]? = some t → args[j]? = some v → Value.okWide Try.prog W .any base t v := hval0
  have hW' := hW
  obtain ⟨p, q, hA0, hV, rfl, _, _⟩ := hW
  have hA : DataW.TrodAll enc Try.prog W 0 (fun _ => true) true Try.f4.params.toList args.toList ds p := hA0
  rw [Try.params4] at hA hval hsz
  obtain ⟨v0, d0, rfl, rfl, h0⟩ := trodAll_one hA
  obtain ⟨rfl, rfl⟩ := trodVars_none hV
  obtain ⟨s, rfl, rfl, rfl, hs⟩ := open_string Try.underlying9 (hval 0 9 v0 rfl rfl) h0
  clear hA0 hval0
  simp only [List.append_nil] at hW'
  have e1 : s.size = s.data.size := rfl
  have e2 : s.data.toList.length = s.data.size := Array.length_toList
  have hlim : s.size ≤ 140737488351232 := by
    have h1 := sized_string hsz (j := 0) (t := 9) rfl rfl
    have e3 : reachBytes = 140737488351232 := by decide
    omega
  refine (walk s hlim W).mono fun e W' ⟨he, hnx⟩ => ?_
  subst he
  exact ⟨_, rfl, _, _, _, [], [], [], hW', trodAll_mk1 (shut_bool Try.underlying4 true), trodAll_mk1 (shut_string Try.underlying9 hs), rfl, hnx.frame _, fun h => by cases h⟩

theorem proved : Rows.FnEnsuredAgainSaid :=
  OpenClaim.holds_of_wide 4 Try.f4 rfl rfl rfl rfl rfl rfl rfl ⟨rfl, rfl, rfl, rfl, rfl⟩ rfl rfl rfl rfl rfl (by kernel_rfl) Try.func4 (by kernel_rfl)
    (of_decide_eq_true (by kernel_rfl)) (by unfold Func.isWrapper; first | (rw [if_pos (by decide +kernel)]; kernel_rfl) | (rw [if_neg (by decide +kernel)]; exact ⟨rfl, rfl⟩))
    (fun os started H enc _ => lifted os started H enc)
#print axioms proved
end Go.Proofs.Yteoggommgbajnaa.fnEnsuredAgain

