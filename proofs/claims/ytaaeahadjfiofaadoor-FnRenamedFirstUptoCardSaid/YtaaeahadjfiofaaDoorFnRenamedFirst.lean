/- For every slice of strings the law FnRenamedFirst returns true: a name that was not given before is given as it is asked for. The slice's values and letters are at most 1048576 together; the listed tables hold what the program's text lays (the card ties them). -/
import Derived.Test.YtaaeahadjfiofaaDoorRenOpen
namespace Go.Proofs.YtaaeahadjfiofaaDoor.fnRenamedFirst
open Go.ChangeShapes Go.WideShapes Go.ChangeAt Go.RowKit Go.Lib
open ren

set_option maxHeartbeats 1000000 in
theorem walk (A : Option Addr) (n c : Nat) (l : List ByteArray) (hn : n ≤ 1048576) (hs : ∀ s ∈ l, s.size ≤ 1048576) (w : World) (hT : Tab w) (hr : RdS w w.heap.size A n l) :
    Calls Tryd.prog 4 #[.slice A n c] w fun e w' => e = .returned (.bool true) ∧ Below w.heap.size w w' := by
  have HM := Lib.hid (renamed_any A n c l hn w hT hr)
  have HS := Lib.hid hs
  have HR := Lib.hid hr
  have hmm := @run_makeMap Tryd.prog
  clear hr hs hT
  go_enter Tryd.func4, Tryd.ntmps4
  go_wp2_with fail
  refine HM.out.mono ?_
  rintro e w1 ⟨outs, v, rfl, hol, hgv, hown, hb1⟩
  obtain ⟨A2, c2, rfl, hr2⟩ := rds_of_own hown hol (outs_len hgv HS.out)
  have HR2 := Lib.hid hr2
  have HG := Lib.hid hgv
  have HOL := Lib.hid hol
  have HRa := Lib.hid ((HR.out.below hb1).more hb1.size)
  have hsz1 := hb1.size
  clear HM hown hgv hol hr2 HR
  go_wp2_with fail
  clear hmm
  go_loopw [12] (fun i wr => ∃ (k : Nat) (D : DataW Unit), k ≤ n ∧ i = .int .i64 (k : Int) ∧ OwnB wr w1.heap.size k D ∧ Seen D (outs.take k) ∧ Below w1.heap.size w1 wr) (fun i _ => n - (RowKit.intOf i).toNat)
  case atStart => exact ⟨0, .map [], Nat.zero_le _, rfl, World.ownsMap_made _ _ _ _, seen_nil, (Below.refl _ _).alloc (Nat.le_refl _) _⟩
  case round =>
    obtain ⟨k, D, hk, rfl, hmap, hseen, hbw⟩ := hrel
    have hsz2 := hbw.size
    by_cases hlt : k < n
    · obtain ⟨ad2, t, rfl, hB2, hx2, hts, hc2⟩ := (HR2.out.below hbw).at_ hlt
      obtain ⟨ad, s, rfl, hB, hx, hss, hc1⟩ := (HRa.out.below hbw).at_ hlt
      have hko : k < outs.length := by rw [HOL.out]; exact hlt
      obtain ⟨_, hsame, _⟩ := HG.out.2 k hko
      rw [ls_at hx] at hsame
      have et : outs.getD k [] = t.data.toList := by
        rw [List.getElem?_map, List.getElem?_eq_getElem hko] at hx2
        simp at hx2
        rw [← hx2]
        simp [hko]
      have htk : outs.take (k + 1) = outs.take k ++ [t.data.toList] := by
        rw [List.take_succ_eq_append_getElem hko, ← et]
        simp [hko]
      rw [et] at hsame
      have hlk := lookB hmap hseen s (by omega)
      have HK := Lib.hid (key_of t (by omega))
      have HM := Lib.hid hmap
      have HSE := Lib.hid (hseen.put t.data.toList)
      rw [← htk] at HSE
      clear hmap hseen hx2 hx hko et htk
      by_cases hin : s.data.toList ∈ outs.take k
      · rw [decide_eq_true hin] at hlk
        clear hin hsame
        go_wp2_with (at_mapUpdate; refine wpList_mapUpdate_own _ rfl _ _ _ 24 rfl 9 4 law Tryd.underlying24 _ w1.heap.size k _ rfl HM.out (by unfold maxLen; omega) _ _ _ rfl rfl HK.out _ [] (plainElem_bool Tryd.underlying4 true) ?_; intro w3 hown3 hgrow3)
        have hbw3 : Below w1.heap.size w1 w3 := hbw.grown hgrow3 hsz2 fun j e => by cases e; exact Nat.le_refl _
        go_roundw
        case rel => exact ⟨k + 1, _, by omega, by go_num, hown3, HSE.out, hbw3⟩
        case measure => simp [RowKit.intOf]; omega
      · rw [decide_eq_false hin] at hlk
        obtain rfl : t = s := bytes_inj (hsame hin)
        clear hin hsame
        go_wp2_with (at_mapUpdate; refine wpList_mapUpdate_own _ rfl _ _ _ 24 rfl 9 4 law Tryd.underlying24 _ w1.heap.size k _ rfl HM.out (by unfold maxLen; omega) _ _ _ rfl rfl HK.out _ [] (plainElem_bool Tryd.underlying4 true) ?_; intro w3 hown3 hgrow3)
        have hbw3 : Below w1.heap.size w1 w3 := hbw.grown hgrow3 hsz2 fun j e => by cases e; exact Nat.le_refl _
        go_roundw
        case rel => exact ⟨k + 1, _, by omega, by go_num, hown3, HSE.out, hbw3⟩
        case measure => simp [RowKit.intOf]; omega
    · obtain rfl : k = n := by omega
      go_wp2_with fail
      go_ret
      exact ⟨rfl, hb1.trans (hbw.mono hsz1)⟩

theorem contract (H : Type) (enc : TypeId × Value → H) (W : World) (base : Nat) (args : Array Value) (ds gs : List (DataW H)) (before : List MemPlace)
    (hval : ∀ (j : Nat) t v, Tryd.f4.params[j]? = some t → args[j]? = some v → Value.okWide Tryd.prog W .any base t v)
    (hW : DataW.Whole enc Tryd.prog Tryd.f4.params.toList Rows.fnRenamedFirstSpec.vars false W args.toList ds gs before) (hL : laidMetH Tryd.prog Rows.fnRenamedFirstUptoRow.laid W) (hk : Rows.uptoSmall H (ds ++ gs) = true) :
    Calls Tryd.prog 4 args W fun e W' => ∃ v, e = .returned v ∧ Rows.fnRenamedFirstSpec.post enc Tryd.prog Tryd.f4 false true false false W args v W' := by
  have hW' := hW
  obtain ⟨p, q, hA0, hV, rfl, hfz, hnd⟩ := hW
  have hA : DataW.TrodAll enc Tryd.prog W 0 (fun _ => true) true Tryd.f4.params.toList args.toList ds p := hA0
  rw [Tryd.params4] at hA hval
  obtain ⟨v0, d0, rfl, rfl, h0⟩ := trodAll_one hA
  obtain ⟨rfl, rfl⟩ := trodVars_none hV
  clear hA0
  simp only [List.append_nil] at hW' hk
  have hkk : Rows.uptoBulkAll [d0] ≤ 1048576 := of_decide_eq_true hk
  simp only [Rows.uptoBulkAll] at hkk
  have hlt : ∀ x ∈ p, x.block < W.heap.size := fun x hx => by simpa using hW'.lt x hx
  obtain ⟨A, n, c, l, rfl, hr, hn, hs⟩ := open_rds (hval 0 22 v0 rfl rfl) h0 hlt (by omega)
  refine (walk A n c l hn hs W (tab_of hL) hr).mono fun e W' ⟨he, hnx⟩ => ?_
  subst he
  exact ⟨_, rfl, _, _, _, [], p, [], hW', trodAll_mk1 (shut_bool Tryd.underlying4 true), trodAll_mk1 (Below.trod laidOut (by kernel_rfl) (of_decide_eq_true (by kernel_rfl)) h0 hnx hlt), rfl, hnx.frame _, fun h => by cases h⟩

theorem reads (os : Os) {H : Type} (enc : TypeId × Value → H) : ∃ places, DataW.whole enc Tryd.prog ((World.doorLaid Tryd.prog 400 os).forCall (fun _ _ => 0) ⟨#[], #[.slice none 0 0], []⟩).memory Tryd.f4.params.toList Rows.fnRenamedFirstSpec.vars false #[Value.slice none 0 0].toList 8 = some ([.nil], [], places) :=
  ⟨[], by kernel_rfl⟩

set_option maxRecDepth 100000 in
theorem lifted (os : Os) (started : os.Started) (H : Type) (enc : TypeId × Value → H) (F : Stop.Interp) :
    ReturnsInHanded {} Tryd.checked os 4 .any ((Rows.OpenSpec.upto Rows.fnRenamedFirstSpec).preRow enc Tryd.prog Tryd.f4 Rows.fnRenamedFirstUptoRow.domain false Rows.fnRenamedFirstUptoRow.laid) (((Rows.OpenSpec.upto Rows.fnRenamedFirstSpec).at F).post enc Tryd.prog Tryd.f4 false true false false) := by
  obtain ⟨places, hx⟩ := reads os enc
  refine returnsInHanded_of_row (C := Tryd.checked) (s := Rows.OpenSpec.upto Rows.fnRenamedFirstSpec) own started (by kernel_rfl) Tryd.func4
    (witness_row_at (enc := enc) (C := Tryd.checked) false (World.doorLaid Tryd.prog 400 os) #[.slice none 0 0] rfl (by kernel_rfl) (by kernel_rfl) (by kernel_rfl)
      (OpenSpec.preRow_of_cond 8 hx (by kernel_rfl) (fun k hk => by cases hk; kernel_rfl) (by kernel_rfl) (met os _))) ?_
  intro W base args ds gs before hval hW _ hcond _ hL _ _
  exact contract H enc W base args ds gs before hval hW hL (hcond _ rfl)

theorem said : Rows.FnRenamedFirstUptoSaid :=
  OpenClaim.holds_of_cond 4 Tryd.f4 rfl rfl rfl rfl rfl rfl rfl ⟨rfl, rfl, rfl, rfl, rfl⟩ rfl rfl rfl rfl rfl (by kernel_rfl) Tryd.func4 (by kernel_rfl)
    (of_decide_eq_true (by kernel_rfl)) (by unfold Func.isWrapper; first | (rw [if_pos (by decide +kernel)]; kernel_rfl) | (rw [if_neg (by decide +kernel)]; exact ⟨rfl, rfl⟩))
    (fun os started H enc _ F => by rw [OpenClaim.pre_eq_preRow]; exact lifted os started H enc F)

theorem plain (f : FuncId) (fn : Func) (hf : Tryd.pinned.checked.prog.funcNamed "nameplough/laws.FnRenamedFirst" = some f) (hfn : Tryd.pinned.checked.prog.funcs[f]? = some fn) :
    false = Tryd.pinned.checked.prog.looks [] ∧ ∀ (j : Nat) t, fn.params[j]? = some t → Tryd.pinned.checked.prog.wantsStandIn t = false := by
  obtain rfl : f = 4 := Option.some.inj ((show Tryd.prog.funcNamed "nameplough/laws.FnRenamedFirst" = some 4 by kernel_rfl).symm.trans hf) |>.symm
  obtain rfl : fn = Tryd.f4 := (Option.some.inj (Tryd.func4.symm.trans hfn)).symm
  refine ⟨by kernel_rfl, fun j t ht => ?_⟩
  rw [Tryd.params4] at ht
  obtain rfl : t = 22 := by simpa using Array.mem_of_getElem? ht
  exact (show Tryd.prog.wantsStandIn 22 = false by kernel_rfl)

theorem card : Rows.FnRenamedFirstUptoCardSaid :=
  Claim7.holds_tied_plain_at .later [] _ _ _ _ said (fun _ h => by cases h) (by kernel_rfl) (fun _ h => by cases h) fnRenamedFirstUpto_row_tie rfl ⟨rfl, rfl⟩ (by kernel_rfl) rfl plain (by kernel_rfl)
#print axioms card
end Go.Proofs.YtaaeahadjfiofaaDoor.fnRenamedFirst
