/- For every bool, slice of impl.Scan and int the law FnShuffled returns true: the shuffled signs name a number as the reference's sorted signs do. No condition; the two package variables hold what the program's text lays (the card ties them). -/
import Derived.Test.YtpmihkhmijndaaaDoorShufAll
namespace Go.Proofs.YtpmihkhmijndaaaDoor.fnShuffled
open Go.ChangeShapes Go.WideShapes Go.ChangeAt Go.RowKit
open cnt srt

set_option maxHeartbeats 1000000 in
theorem walk (css : Bool) (A : Option Addr) (n c : Nat) (L : List (ByteArray × Int)) (hn : n * 24 ≤ 140737488351232) (a : Int) (ha : (Lit.int .i64 a).wf = true) (w : World) (hL : ∀ css, nm.Laid css w) (hr : Rd w w.heap.size A n L) :
    Calls Tryd.prog 3 #[.bool css, .slice A n c, .int .i64 a] w fun e w' => e = .returned (.bool true) ∧ Below w.heap.size w w' := by
  have HR := Lib.hid hr
  have HL := Lib.hid (hL css)
  have HA := Lib.hid ha
  have HT := Lib.hid (fun W => nm.tail_any css W)
  have HC := Lib.hid fun W (h : Rd W W.heap.size A n L) => scans_any A n c L (by omega) W h
  have HD := Lib.hid fun (A2 : Option Addr) (c2 : Nat) W (h : Rd W W.heap.size A2 n L) => specCounts_any A2 n c2 L (by omega) W h
  have HS := Lib.hid fun g cap W (h1 : g < W.heap.size) (h2 : ∀ j, j < 64 → W.cell? ⟨g, j, none⟩ = some (.int .i32 ((all z64 L).getD j 0))) => sorted_any (nm.tailB css) (tail63 css) (all z64 L) g cap W h1 h2
  have HSH := Lib.hid fun (k : Nat) (hk : k ≤ 9223372036854775807) W (h : Rd W W.heap.size A n L) (hl : nm.Laid css W) => shuffled_any css A n c L (by omega) k hk W h hl
  have HN := Lib.hid fun s (hs : IsSel (nm.tailB css).size (all z64 L) s) (k : Nat) (hk : k ≤ 9223372036854775807) W => spec_sel hs k hk W
  have HU := Lib.hid fun s t (hs : IsSel (nm.tailB css).size (all z64 L) s) (ht : IsSel (nm.tailB css).size (all z64 L) t) => sel_uniq hs ht
  unfold RetShuf at HSH
  clear hr hL ha
  generalize nm.tailB css = T at *
  generalize all z64 L = cs at *
  go_enter Tryd.func3, Tryd.ntmps3
  go_wp2_with fail
  refine (HT.out _).mono ?_
  rintro e w0 ⟨rfl, rfl⟩
  go_wp2_with fail
  refine (HC.out _ HR.out).mono ?_
  rintro e w1 ⟨v1, rfl, hown1, hb1⟩
  obtain ⟨A2, c2, rfl, hr2⟩ := rd_of_own hown1 HR.out.1 HR.out.2.1
  have HR2 := Lib.hid hr2
  clear hown1 hr2
  go_wp2_with fail
  refine (HD.out _ _ _ HR2.out).mono ?_
  rintro e w2 ⟨v2, rfl, hown2, hb2⟩
  obtain ⟨g2, q2, rfl, _, hg2, hc2⟩ := row_form hown2
  have HC2 := Lib.hid hc2
  clear hown2 hc2
  go_wp2_with fail
  refine (HS.out _ _ _ hg2 HC2.out).mono ?_
  rintro e w3 ⟨s, hs, rfl, hb3⟩
  have HSEL := Lib.hid hs
  have z1 := hb1.size
  have z2 := hb2.size
  have z3 := hb3.size
  have HB := Lib.hid ((hb1.trans (hb2.mono z1)).trans (hb3.mono (by omega)))
  clear hs hb1 hb2 hb3 HC2 HR2
  by_cases h : a < 0
  · go_wp2
    go_ret
    exact ⟨rfl, HB.out⟩
  · obtain ⟨k, rfl⟩ : ∃ k : Nat, a = (k : Int) := ⟨a.toNat, by omega⟩
    have hk : k ≤ 9223372036854775807 := nm.nat_le HA.out
    go_wp2_with fail
    refine (HSH.out k hk _ ((HR.out.below HB.out).more HB.out.size) (HL.out.below HB.out (Nat.le_refl _))).mono ?_
    rintro e w4 ⟨s', hs', rfl, hb4⟩
    obtain rfl := HU.out _ _ hs' HSEL.out
    clear hs'
    go_wp2_with fail
    refine (HN.out _ HSEL.out k hk _).mono ?_
    rintro e w5 ⟨rfl, hb5⟩
    generalize nm.name (headsOf T _) (tailsOf T _) k = R at *
    go_wp2_with fail
    go_ret
    have z4 := hb4.size
    exact ⟨rfl, (HB.out.trans (hb4.mono (by omega))).trans (hb5.mono (by omega))⟩

set_option maxRecDepth 100000 in
theorem lifted (os : Os) (started : os.Started) (H : Type) (enc : TypeId × Value → H) :
    ReturnsInHanded {} Tryd.checked os 3 .any (fun w args => (Rows.fnShuffledSpec.pre enc Tryd.prog Tryd.f3 [] false w args ∧ laidMetH Tryd.prog Rows.fnShuffledRow.laid w) ∧ sizedMet enc Tryd.prog Tryd.f3 (OpenSpec.ofChange Rows.fnShuffledSpec) false w args)
      (Rows.fnShuffledSpec.post enc Tryd.prog Tryd.f3 false true false false) := by
  refine returnsInHanded_of_change_and (C := Tryd.checked) (X := fun w _ => laidMetH Tryd.prog Rows.fnShuffledRow.laid w) (fun _ _ _ hh h => h.of_heap hh) nm.own started (by kernel_rfl) Tryd.func3
    (ChangeSpec.witness_shaped (enc := enc) (C := Tryd.checked) (os := os) (X := fun w _ => laidMetH Tryd.prog Rows.fnShuffledRow.laid w) false (World.doorLaid Tryd.prog 400 os) #[.bool false, .slice none 0 0, .int .i64 0] 8 rfl (nm.shaped os _) (by kernel_rfl) (by kernel_rfl) (by kernel_rfl) (nm.met_two os _)) ?_
  intro W base args ds gs before hval0 hW _ hsz0 hL _
  have hsz : (DataW.weightsEach Tryd.prog (Tryd.f3.params.toList ++ Rows.fnShuffledSpec.plain.varTypes Tryd.prog) (ds ++ gs)).all (· ≤ reachBytes) = true := hsz0
  clear hsz0
  have hval : ∀ (j : Nat) t v, Tryd.f3.params[j]? = some t → args[j]? = some v → Value.okWide Tryd.prog W .any base t v := hval0
  have hW' := hW
  obtain ⟨p, q, hA0, hV, rfl, hfz, hnd⟩ := hW
  have hA : DataW.TrodAll enc Tryd.prog W 0 (fun _ => true) true Tryd.f3.params.toList args.toList ds p := hA0
  rw [Tryd.params3] at hA hval hsz
  obtain ⟨v0, vs0, d0, ds0, p0, q0, hargs, rfl, rfl, h0, r0⟩ := trodAll_cons hA
  obtain ⟨v1, vs1, d1, ds1, p1, q1, rfl, rfl, rfl, h1, r1⟩ := trodAll_cons r0
  obtain ⟨v2, vs2, d2, ds2, p2, q2, rfl, rfl, rfl, h2, r2⟩ := trodAll_cons r1
  obtain ⟨rfl, rfl, rfl⟩ := trodAll_nil r2
  obtain rfl : args = #[v0, v1, v2] := by cases args; simp_all
  obtain ⟨rfl, rfl⟩ := trodVars_none hV
  obtain ⟨a0, rfl, rfl, rfl⟩ := open_bool Tryd.underlying4 (hval 0 4 v0 rfl rfl) h0
  obtain ⟨a2, rfl, rfl, rfl, w2⟩ := open_int Tryd.underlying3 (hval 2 3 v2 rfl rfl) h2
  clear hA0 hval0
  simp only [List.append_nil, List.nil_append] at hW'
  have hlt : ∀ x ∈ p1, x.block < W.heap.size := fun x hx => by simpa using hW'.lt x (by simpa using hx)
  obtain ⟨A, n, c, L, rfl, hr, hn⟩ := cnt.open_scans (hval 1 22 v1 rfl rfl) h1 hlt (by
    rintro elems spare rfl
    have := sized_slice hsz (j := 1) (t := 22) (e := 41) rfl rfl Tryd.underlying22
    rw [cnt.bytes43] at this
    have e3 : reachBytes = 140737488351232 := by decide
    omega)
  refine (walk a0 A n c L hn a2 w2 W (nm.of_two hL) hr).mono fun e W' ⟨he, hnx⟩ => ?_
  subst he
  exact ⟨_, rfl, _, _, _, [], _, [], hW', trodAll_mk1 (shut_bool Tryd.underlying4 true), (trodAll_cons_mk (shut_bool Tryd.underlying4 _) (trodAll_cons_mk (Below.trod cnt.laidOut (by kernel_rfl) (of_decide_eq_true (by kernel_rfl)) h1 hnx hlt) (trodAll_cons_mk (shut_int Tryd.underlying3 w2) trodAll_mk0))), rfl, hnx.frame _, fun h => by cases h⟩

theorem said : Rows.FnShuffledSaid :=
  OpenClaim.holds_of_wide 3 Tryd.f3 rfl rfl rfl rfl rfl rfl rfl ⟨rfl, rfl, rfl, rfl, rfl⟩ rfl rfl rfl rfl rfl (by kernel_rfl) Tryd.func3 (by kernel_rfl)
    (of_decide_eq_true (by kernel_rfl)) (by unfold Func.isWrapper; first | (rw [if_pos (by decide +kernel)]; kernel_rfl) | (rw [if_neg (by decide +kernel)]; exact ⟨rfl, rfl⟩))
    (fun os started H enc _ => lifted os started H enc)

theorem plain (f : FuncId) (fn : Func) (hf : Tryd.pinned.checked.prog.funcNamed "nameplough/laws.FnShuffled" = some f) (hfn : Tryd.pinned.checked.prog.funcs[f]? = some fn) :
    false = Tryd.pinned.checked.prog.looks [] ∧ ∀ (j : Nat) t, fn.params[j]? = some t → Tryd.pinned.checked.prog.wantsStandIn t = false := by
  obtain rfl : f = 3 := Option.some.inj ((show Tryd.prog.funcNamed "nameplough/laws.FnShuffled" = some 3 by kernel_rfl).symm.trans hf) |>.symm
  obtain rfl : fn = Tryd.f3 := (Option.some.inj (Tryd.func3.symm.trans hfn)).symm
  refine ⟨by kernel_rfl, fun j t ht => ?_⟩
  rw [Tryd.params3] at ht
  have hm := Array.mem_of_getElem? ht
  simp at hm
  rcases hm with rfl | rfl | rfl
  all_goals first | exact (show Tryd.prog.wantsStandIn 4 = false by kernel_rfl) | exact (show Tryd.prog.wantsStandIn 3 = false by kernel_rfl) | exact (show Tryd.prog.wantsStandIn 22 = false by kernel_rfl)

theorem card : Rows.FnShuffledCardSaid :=
  Claim7.holds_tied_plain_at .later [] _ _ _ _ said (fun _ h => by cases h) (by kernel_rfl) (fun _ h => by cases h) fnShuffled_row_tie rfl ⟨rfl, rfl⟩ (by kernel_rfl) rfl plain (by kernel_rfl)
#print axioms card
end Go.Proofs.YtpmihkhmijndaaaDoor.fnShuffled

