/- For every bool, slice of impl.Scan and all ints the law FnShuffledApart returns true: unlike numbers have unlike names over the shuffled signs, and each name is one of the unshuffled signs. No condition; the two package variables hold what the program's text lays (the card ties them). -/
import Derived.Test.YtpmihkhmijndaaaDoorShufAll
namespace Go.Proofs.YtpmihkhmijndaaaDoor.fnShuffledApart
open Go.ChangeShapes Go.WideShapes Go.ChangeAt Go.RowKit
open cnt srt

set_option maxHeartbeats 1000000 in
theorem walk (css : Bool) (A : Option Addr) (n c : Nat) (L : List (ByteArray × Int)) (hn : n * 24 ≤ 140737488351232) (a : Int) (ha : (Lit.int .i64 a).wf = true) (b : Int) (hb : (Lit.int .i64 b).wf = true) (w : World) (hL : ∀ css, nm.Laid css w) (hr : Rd w w.heap.size A n L) :
    Calls Tryd.prog 4 #[.bool css, .slice A n c, .int .i64 a, .int .i64 b] w fun e w' => e = .returned (.bool true) ∧ Below w.heap.size w w' := by
  have HR := Lib.hid hr
  have HL := Lib.hid (hL css)
  have HA := Lib.hid ha
  have HB := Lib.hid hb
  clear hr hL ha hb
  by_cases h1 : a < 0
  · go_enter Tryd.func4, Tryd.ntmps4
    go_wp2
    go_ret
    exact ⟨rfl, Below.refl _ _⟩
  · by_cases h2 : b < 0
    · go_enter Tryd.func4, Tryd.ntmps4
      go_wp2
      go_ret
      exact ⟨rfl, Below.refl _ _⟩
    · obtain ⟨k, rfl⟩ : ∃ k : Nat, a = (k : Int) := ⟨a.toNat, by omega⟩
      obtain ⟨j, rfl⟩ : ∃ j : Nat, b = (j : Int) := ⟨b.toNat, by omega⟩
      have hk : k ≤ 9223372036854775807 := nm.nat_le HA.out
      have hj : j ≤ 9223372036854775807 := nm.nat_le HB.out
      have HT := Lib.hid (fun W => nm.tail_any css W)
      have HH := Lib.hid (fun W => nm.head_any css W)
      have HSH := Lib.hid fun (k : Nat) (hk : k ≤ 9223372036854775807) W (h : Rd W W.heap.size A n L) (hl : nm.Laid css W) => shuffled_any css A n c L (by omega) k hk W h hl
      have HF := Lib.hid fun s (hs : IsSel (nm.tailB css).size (all z64 L) s) (k : Nat) (hk : k ≤ 9223372036854775807) W => from_sel hs k hk W
      have HU := Lib.hid fun s t (hs : IsSel (nm.tailB css).size (all z64 L) s) (ht : IsSel (nm.tailB css).size (all z64 L) t) => sel_uniq hs ht
      have HI := Lib.hid fun s (hs : IsSel (nm.tailB css).size (all z64 L) s) (x y : Nat) => shuf_inj hs x y
      unfold RetShuf at HSH
      generalize nm.tailB css = T at *
      generalize nm.headB css = H at *
      generalize all z64 L = cs at *
      go_enter Tryd.func4, Tryd.ntmps4
      go_wp2_with fail
      refine (HSH.out k hk _ HR.out HL.out).mono ?_
      rintro e w1 ⟨s, hs, rfl, hb1⟩
      have HSEL := Lib.hid hs
      clear hs
      go_wp2_with fail
      refine (HSH.out j hj _ ((HR.out.below hb1).more hb1.size) (HL.out.below hb1 (Nat.le_refl _))).mono ?_
      rintro e w2 ⟨s', hs', rfl, hb2⟩
      obtain rfl := HU.out _ _ hs' HSEL.out
      clear hs'
      have HF1 := Lib.hid fun W => HF.out _ HSEL.out k hk W
      have HE := Lib.hid (HI.out _ HSEL.out k j)
      have z1 := hb1.size
      have HBB := Lib.hid (hb1.trans (hb2.mono z1))
      clear hb1 hb2 HF HU HI HSH HSEL
      by_cases e : k = j
      · subst e
        generalize nm.name (headsOf T _) (tailsOf T _) k = R at *
        go_wp2_with fail
        refine (HH.out _).mono ?_
        rintro e w3 ⟨rfl, rfl⟩
        go_wp2_with fail
        refine (HT.out _).mono ?_
        rintro e w4 ⟨rfl, rfl⟩
        go_wp2_with fail
        refine (HF1.out _).mono ?_
        rintro e w5 ⟨rfl, rfl⟩
        go_wp2_with fail
        go_ret
        exact ⟨rfl, HBB.out⟩
      · have hne : ¬ nm.name (headsOf T _) (tailsOf T _) k = nm.name (headsOf T _) (tailsOf T _) j := fun h => e (HE.out h)
        clear HE
        generalize nm.name (headsOf T _) (tailsOf T _) k = R at *
        generalize nm.name (headsOf T _) (tailsOf T _) j = R2 at *
        have hR2 : (R == R2) = false := by simpa using hne
        have hq : ((k : Int) == (j : Int)) = false := by simpa using fun h => e (by omega)
        go_wp2_with fail
        refine (HH.out _).mono ?_
        rintro e w3 ⟨rfl, rfl⟩
        go_wp2_with fail
        refine (HT.out _).mono ?_
        rintro e w4 ⟨rfl, rfl⟩
        go_wp2_with fail
        refine (HF1.out _).mono ?_
        rintro e w5 ⟨rfl, rfl⟩
        go_wp2_with fail
        go_ret
        exact ⟨rfl, HBB.out⟩

set_option maxRecDepth 100000 in
theorem lifted (os : Os) (started : os.Started) (H : Type) (enc : TypeId × Value → H) :
    ReturnsInHanded {} Tryd.checked os 4 .any (fun w args => (Rows.fnShuffledApartSpec.pre enc Tryd.prog Tryd.f4 [] false w args ∧ laidMetH Tryd.prog Rows.fnShuffledApartRow.laid w) ∧ sizedMet enc Tryd.prog Tryd.f4 (OpenSpec.ofChange Rows.fnShuffledApartSpec) false w args)
      (Rows.fnShuffledApartSpec.post enc Tryd.prog Tryd.f4 false true false false) := by
  refine returnsInHanded_of_change_and (C := Tryd.checked) (X := fun w _ => laidMetH Tryd.prog Rows.fnShuffledApartRow.laid w) (fun _ _ _ hh h => h.of_heap hh) nm.own started (by kernel_rfl) Tryd.func4
    (ChangeSpec.witness_shaped (enc := enc) (C := Tryd.checked) (os := os) (X := fun w _ => laidMetH Tryd.prog Rows.fnShuffledApartRow.laid w) false (World.doorLaid Tryd.prog 400 os) #[.bool false, .slice none 0 0, .int .i64 0, .int .i64 0] 8 rfl (nm.shaped os _) (by kernel_rfl) (by kernel_rfl) (by kernel_rfl) (nm.met_two os _)) ?_
  intro W base args ds gs before hval0 hW _ hsz0 hL _
  have hsz : (DataW.weightsEach Tryd.prog (Tryd.f4.params.toList ++ Rows.fnShuffledApartSpec.plain.varTypes Tryd.prog) (ds ++ gs)).all (· ≤ reachBytes) = true := hsz0
  clear hsz0
  have hval : ∀ (j : Nat) t v, Tryd.f4.params[j]? = some t → args[j]? = some v → Value.okWide Tryd.prog W .any base t v := hval0
  have hW' := hW
  obtain ⟨p, q, hA0, hV, rfl, hfz, hnd⟩ := hW
  have hA : DataW.TrodAll enc Tryd.prog W 0 (fun _ => true) true Tryd.f4.params.toList args.toList ds p := hA0
  rw [Tryd.params4] at hA hval hsz
  obtain ⟨v0, vs0, d0, ds0, p0, q0, hargs, rfl, rfl, h0, r0⟩ := trodAll_cons hA
  obtain ⟨v1, vs1, d1, ds1, p1, q1, rfl, rfl, rfl, h1, r1⟩ := trodAll_cons r0
  obtain ⟨v2, vs2, d2, ds2, p2, q2, rfl, rfl, rfl, h2, r2⟩ := trodAll_cons r1
  obtain ⟨v3, vs3, d3, ds3, p3, q3, rfl, rfl, rfl, h3, r3⟩ := trodAll_cons r2
  obtain ⟨rfl, rfl, rfl⟩ := trodAll_nil r3
  obtain rfl : args = #[v0, v1, v2, v3] := by cases args; simp_all
  obtain ⟨rfl, rfl⟩ := trodVars_none hV
  obtain ⟨a0, rfl, rfl, rfl⟩ := open_bool Tryd.underlying4 (hval 0 4 v0 rfl rfl) h0
  obtain ⟨a2, rfl, rfl, rfl, w2⟩ := open_int Tryd.underlying3 (hval 2 3 v2 rfl rfl) h2
  obtain ⟨a3, rfl, rfl, rfl, w3⟩ := open_int Tryd.underlying3 (hval 3 3 v3 rfl rfl) h3
  clear hA0 hval0
  simp only [List.append_nil, List.nil_append] at hW'
  have hlt : ∀ x ∈ p1, x.block < W.heap.size := fun x hx => by simpa using hW'.lt x (by simpa using hx)
  obtain ⟨A, n, c, L, rfl, hr, hn⟩ := cnt.open_scans (hval 1 22 v1 rfl rfl) h1 hlt (by
    rintro elems spare rfl
    have := sized_slice hsz (j := 1) (t := 22) (e := 41) rfl rfl Tryd.underlying22
    rw [cnt.bytes43] at this
    have e3 : reachBytes = 140737488351232 := by decide
    omega)
  refine (walk a0 A n c L hn a2 w2 a3 w3 W (nm.of_two hL) hr).mono fun e W' ⟨he, hnx⟩ => ?_
  subst he
  exact ⟨_, rfl, _, _, _, [], _, [], hW', trodAll_mk1 (shut_bool Tryd.underlying4 true), (trodAll_cons_mk (shut_bool Tryd.underlying4 _) (trodAll_cons_mk (Below.trod cnt.laidOut (by kernel_rfl) (of_decide_eq_true (by kernel_rfl)) h1 hnx hlt) (trodAll_cons_mk (shut_int Tryd.underlying3 w2) (trodAll_cons_mk (shut_int Tryd.underlying3 w3) trodAll_mk0)))), rfl, hnx.frame _, fun h => by cases h⟩

theorem said : Rows.FnShuffledApartSaid :=
  OpenClaim.holds_of_wide 4 Tryd.f4 rfl rfl rfl rfl rfl rfl rfl ⟨rfl, rfl, rfl, rfl, rfl⟩ rfl rfl rfl rfl rfl (by kernel_rfl) Tryd.func4 (by kernel_rfl)
    (of_decide_eq_true (by kernel_rfl)) (by unfold Func.isWrapper; first | (rw [if_pos (by decide +kernel)]; kernel_rfl) | (rw [if_neg (by decide +kernel)]; exact ⟨rfl, rfl⟩))
    (fun os started H enc _ => lifted os started H enc)

theorem plain (f : FuncId) (fn : Func) (hf : Tryd.pinned.checked.prog.funcNamed "nameplough/laws.FnShuffledApart" = some f) (hfn : Tryd.pinned.checked.prog.funcs[f]? = some fn) :
    false = Tryd.pinned.checked.prog.looks [] ∧ ∀ (j : Nat) t, fn.params[j]? = some t → Tryd.pinned.checked.prog.wantsStandIn t = false := by
  obtain rfl : f = 4 := Option.some.inj ((show Tryd.prog.funcNamed "nameplough/laws.FnShuffledApart" = some 4 by kernel_rfl).symm.trans hf) |>.symm
  obtain rfl : fn = Tryd.f4 := (Option.some.inj (Tryd.func4.symm.trans hfn)).symm
  refine ⟨by kernel_rfl, fun j t ht => ?_⟩
  rw [Tryd.params4] at ht
  have hm := Array.mem_of_getElem? ht
  simp at hm
  rcases hm with rfl | rfl | rfl
  all_goals first | exact (show Tryd.prog.wantsStandIn 4 = false by kernel_rfl) | exact (show Tryd.prog.wantsStandIn 3 = false by kernel_rfl) | exact (show Tryd.prog.wantsStandIn 22 = false by kernel_rfl)

theorem card : Rows.FnShuffledApartCardSaid :=
  Claim7.holds_tied_plain_at .later [] _ _ _ _ said (fun _ h => by cases h) (by kernel_rfl) (fun _ h => by cases h) fnShuffledApart_row_tie rfl ⟨rfl, rfl⟩ (by kernel_rfl) rfl plain (by kernel_rfl)
#print axioms card
end Go.Proofs.YtpmihkhmijndaaaDoor.fnShuffledApart

