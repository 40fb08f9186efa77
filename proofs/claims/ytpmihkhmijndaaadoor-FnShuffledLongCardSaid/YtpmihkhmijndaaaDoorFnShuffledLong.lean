/- For every bool, slice of impl.Scan and int the law FnShuffledLong returns true: a name over the shuffled signs is as long as the one over the unshuffled ones. No condition; the two package variables hold what the program's text lays (the card ties them). -/
import Derived.Test.YtpmihkhmijndaaaDoorShufAll
namespace Go.Proofs.YtpmihkhmijndaaaDoor.fnShuffledLong
open Go.ChangeShapes Go.WideShapes Go.ChangeAt Go.RowKit
open cnt srt

set_option maxHeartbeats 1000000 in
theorem walk (css : Bool) (A : Option Addr) (n c : Nat) (L : List (ByteArray × Int)) (hn : n * 24 ≤ 140737488351232) (a : Int) (ha : (Lit.int .i64 a).wf = true) (w : World) (hL : ∀ css, nm.Laid css w) (hr : Rd w w.heap.size A n L) :
    Calls Tryd.prog 5 #[.bool css, .slice A n c, .int .i64 a] w fun e w' => e = .returned (.bool true) ∧ Below w.heap.size w w' := by
  have HR := Lib.hid hr
  have HL := Lib.hid (hL css)
  have HA := Lib.hid ha
  clear hr hL ha
  by_cases h1 : a < 0
  · go_enter Tryd.func5, Tryd.ntmps5
    go_wp2
    go_ret
    exact ⟨rfl, Below.refl _ _⟩
  · obtain ⟨k, rfl⟩ : ∃ k : Nat, a = (k : Int) := ⟨a.toNat, by omega⟩
    have hk : k ≤ 9223372036854775807 := nm.nat_le HA.out
    have HSH := Lib.hid fun W (h : Rd W W.heap.size A n L) (hl : nm.Laid css W) => shuffled_any css A n c L (by omega) k hk W h hl
    have HI := Lib.hid (fun W hW => nm.implName_any css k hk W hW)
    have HSM := Lib.hid fun s (hs : IsSel (nm.tailB css).size (all z64 L) s) => name_same hs k
    have HLN := Lib.hid (nm.name_len (nm.headL css) (nm.tailL css) (by have := nm.tail_len css; split at this <;> omega) k (by omega))
    have hne : (nm.name (nm.headL css) (nm.tailL css) k).isEmpty = false := by rfl
    unfold RetShuf at HSH
    generalize nm.tailB css = T at *
    generalize nm.name (nm.headL css) (nm.tailL css) k = R at *
    generalize all z64 L = cs at *
    go_enter Tryd.func5, Tryd.ntmps5
    go_wp2_with fail
    refine (HSH.out _ HR.out HL.out).mono ?_
    rintro e w1 ⟨s, hs, rfl, hb1⟩
    have hlen := HSM.out _ hs
    clear hs HSM HSH
    generalize nm.name (headsOf T _) (tailsOf T _) k = R1 at *
    have HL1 := Lib.hid (HL.out.below hb1 (Nat.le_refl _))
    go_wp2_with fail
    refine (HI.out _ HL1.out).mono ?_
    rintro e w2 ⟨rfl, hb2⟩
    have HL2 := Lib.hid (HL1.out.below hb2 (Nat.le_refl _))
    have hll := HLN.out
    go_wp2_with fail
    refine (HI.out _ HL2.out).mono ?_
    rintro e w3 ⟨rfl, hb3⟩
    go_wp2_with fail
    go_ret
    have := hb1.size
    have := hb2.size
    exact ⟨rfl, (hb1.trans (hb2.mono (by omega))).trans (hb3.mono (by omega))⟩

set_option maxRecDepth 100000 in
theorem lifted (os : Os) (started : os.Started) (H : Type) (enc : TypeId × Value → H) :
    ReturnsInHanded {} Tryd.checked os 5 .any (fun w args => (Rows.fnShuffledLongSpec.pre enc Tryd.prog Tryd.f5 [] false w args ∧ laidMetH Tryd.prog Rows.fnShuffledLongRow.laid w) ∧ sizedMet enc Tryd.prog Tryd.f5 (OpenSpec.ofChange Rows.fnShuffledLongSpec) false w args)
      (Rows.fnShuffledLongSpec.post enc Tryd.prog Tryd.f5 false true false false) := by
  refine returnsInHanded_of_change_and (C := Tryd.checked) (X := fun w _ => laidMetH Tryd.prog Rows.fnShuffledLongRow.laid w) (fun _ _ _ hh h => h.of_heap hh) nm.own started (by kernel_rfl) Tryd.func5
    (ChangeSpec.witness_shaped (enc := enc) (C := Tryd.checked) (os := os) (X := fun w _ => laidMetH Tryd.prog Rows.fnShuffledLongRow.laid w) false (World.doorLaid Tryd.prog 400 os) #[.bool false, .slice none 0 0, .int .i64 0] 8 rfl (nm.shaped os _) (by kernel_rfl) (by kernel_rfl) (by kernel_rfl) (nm.met_two os _)) ?_
  intro W base args ds gs before hval0 hW _ hsz0 hL _
  have hsz : (DataW.weightsEach Tryd.prog (Tryd.f5.params.toList ++ Rows.fnShuffledLongSpec.plain.varTypes Tryd.prog) (ds ++ gs)).all (· ≤ reachBytes) = true := hsz0
  clear hsz0
  have hval : ∀ (j : Nat) t v, Tryd.f5.params[j]? = some t → args[j]? = some v → Value.okWide Tryd.prog W .any base t v := hval0
  have hW' := hW
  obtain ⟨p, q, hA0, hV, rfl, hfz, hnd⟩ := hW
  have hA : DataW.TrodAll enc Tryd.prog W 0 (fun _ => true) true Tryd.f5.params.toList args.toList ds p := hA0
  rw [Tryd.params5] at hA hval hsz
  obtain ⟨v0, vs0, d0, ds0, p0, q0, hargs, rfl, rfl, h0, r0⟩ := trodAll_cons hA
  obtain ⟨v1, vs1, d1, ds1, p1, q1, rfl, rfl, rfl, h1, r1⟩ := trodAll_cons r0
  obtain ⟨v2, vs2, d2, ds2, p2, q2, rfl, rfl, rfl, h2, r2⟩ := trodAll_cons r1
  obtain ⟨rfl, rfl, rfl⟩ := trodAll_nil r2
  obtain rfl : args = #[v0, v1, v2] := by cases args; simp_all
  obtain ⟨rfl, rfl⟩ := trodVars_none hV
  obtain ⟨a0, rfl, rfl, rfl⟩ := open_bool Tryd.underlying4 (hval 0 4 v0 rfl rfl) h0
  obtain ⟨a2, rfl, rfl, rfl, w2⟩ := open_int Tryd.underlying3 (hval 2 3 v2 rfl rfl) h2
  clear hA0 hval0
  simp only [List.append_nil, List.nil_append] at hW'
  have hlt : ∀ x ∈ p1, x.block < W.heap.size := fun x hx => by simpa using hW'.lt x (by simpa using hx)
  obtain ⟨A, n, c, L, rfl, hr, hn⟩ := cnt.open_scans (hval 1 22 v1 rfl rfl) h1 hlt (by
    rintro elems spare rfl
    have := sized_slice hsz (j := 1) (t := 22) (e := 41) rfl rfl Tryd.underlying22
    rw [cnt.bytes43] at this
    have e3 : reachBytes = 140737488351232 := by decide
    omega)
  refine (walk a0 A n c L hn a2 w2 W (nm.of_two hL) hr).mono fun e W' ⟨he, hnx⟩ => ?_
  subst he
  exact ⟨_, rfl, _, _, _, [], _, [], hW', trodAll_mk1 (shut_bool Tryd.underlying4 true), (trodAll_cons_mk (shut_bool Tryd.underlying4 _) (trodAll_cons_mk (Below.trod cnt.laidOut (by kernel_rfl) (of_decide_eq_true (by kernel_rfl)) h1 hnx hlt) (trodAll_cons_mk (shut_int Tryd.underlying3 w2) trodAll_mk0))), rfl, hnx.frame _, fun h => by cases h⟩

theorem said : Rows.FnShuffledLongSaid :=
  OpenClaim.holds_of_wide 5 Tryd.f5 rfl rfl rfl rfl rfl rfl rfl ⟨rfl, rfl, rfl, rfl, rfl⟩ rfl rfl rfl rfl rfl (by kernel_rfl) Tryd.func5 (by kernel_rfl)
    (of_decide_eq_true (by kernel_rfl)) (by unfold Func.isWrapper; first | (rw [if_pos (by decide +kernel)]; kernel_rfl) | (rw [if_neg (by decide +kernel)]; exact ⟨rfl, rfl⟩))
    (fun os started H enc _ => lifted os started H enc)

theorem plain (f : FuncId) (fn : Func) (hf : Tryd.pinned.checked.prog.funcNamed "nameplough/laws.FnShuffledLong" = some f) (hfn : Tryd.pinned.checked.prog.funcs[f]? = some fn) :
    false = Tryd.pinned.checked.prog.looks [] ∧ ∀ (j : Nat) t, fn.params[j]? = some t → Tryd.pinned.checked.prog.wantsStandIn t = false := by
  obtain rfl : f = 5 := Option.some.inj ((show Tryd.prog.funcNamed "nameplough/laws.FnShuffledLong" = some 5 by kernel_rfl).symm.trans hf) |>.symm
  obtain rfl : fn = Tryd.f5 := (Option.some.inj (Tryd.func5.symm.trans hfn)).symm
  refine ⟨by kernel_rfl, fun j t ht => ?_⟩
  rw [Tryd.params5] at ht
  have hm := Array.mem_of_getElem? ht
  simp at hm
  rcases hm with rfl | rfl | rfl
  all_goals first | exact (show Tryd.prog.wantsStandIn 4 = false by kernel_rfl) | exact (show Tryd.prog.wantsStandIn 3 = false by kernel_rfl) | exact (show Tryd.prog.wantsStandIn 22 = false by kernel_rfl)

theorem card : Rows.FnShuffledLongCardSaid :=
  Claim7.holds_tied_plain_at .later [] _ _ _ _ said (fun _ h => by cases h) (by kernel_rfl) (fun _ h => by cases h) fnShuffledLong_row_tie rfl ⟨rfl, rfl⟩ (by kernel_rfl) rfl plain (by kernel_rfl)
#print axioms card
end Go.Proofs.YtpmihkhmijndaaaDoor.fnShuffledLong

