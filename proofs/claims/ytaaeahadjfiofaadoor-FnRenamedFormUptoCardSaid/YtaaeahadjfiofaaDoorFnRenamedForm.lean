/- For every slice of strings the law FnRenamedForm returns true: a name that is given is the one that was asked for, perhaps with digits behind it. The slice's values and letters are at most 1048576 together; the listed tables hold what the program's text lays (the card ties them). -/
import Derived.Test.YtaaeahadjfiofaaDoorRenOpen
namespace Go.Proofs.YtaaeahadjfiofaaDoor.fnRenamedForm
open Go.ChangeShapes Go.WideShapes Go.ChangeAt Go.RowKit Go.Lib
open ren

set_option maxHeartbeats 1000000 in
theorem walk (A : Option Addr) (n c : Nat) (l : List ByteArray) (hn : n ≤ 1048576) (hs : ∀ s ∈ l, s.size ≤ 1048576) (w : World) (hT : Tab w) (hr : RdS w w.heap.size A n l) :
    Calls Tryd.prog 5 #[.slice A n c] w fun e w' => e = .returned (.bool true) ∧ Below w.heap.size w w' := by
  have HM := Lib.hid (renamed_any A n c l hn w hT hr)
  have HR := Lib.hid hr
  have HS := Lib.hid hs
  clear hr hs hT
  go_enter Tryd.func5, Tryd.ntmps5
  go_wp2_with fail
  refine HM.out.mono ?_
  rintro e w1 ⟨outs, v, rfl, hol, hgv, hown, hb1⟩
  obtain ⟨A2, c2, rfl, hr2⟩ := rds_of_own hown hol (outs_len hgv HS.out)
  have HR2 := Lib.hid hr2
  have HG := Lib.hid hgv
  have HOL := Lib.hid hol
  have HRa := Lib.hid ((HR.out.below hb1).more hb1.size)
  clear HM hown hgv hol hr2 HR
  go_wp2_with fail
  go_loop [15] (fun i => ∃ k : Nat, k ≤ n ∧ i = .int .i64 (k : Int)) (fun i => n - (RowKit.intOf i).toNat)
  case atStart => exact ⟨0, Nat.zero_le _, rfl⟩
  case round =>
    obtain ⟨k, hk, rfl⟩ := hrel
    by_cases hlt : k < n
    · obtain ⟨ad, s, rfl, hB, hx, hsz, hc1⟩ := HRa.out.at_ hlt
      obtain ⟨ad2, t, rfl, hB2, hx2, hsz2, hc2⟩ := HR2.out.at_ hlt
      have hko : k < outs.length := by rw [HOL.out]; exact hlt
      obtain ⟨_, _, ds, hd, hdl, e⟩ := HG.out.2 k hko
      have et : t = ⟨(s.data.toList ++ ds).toArray⟩ := by
        have e1 : outs.getD k [] = outs[k] := by simp [hko]
        rw [e1, ls_at hx] at e
        rw [List.getElem?_map, List.getElem?_eq_getElem hko] at hx2
        simp at hx2
        rw [← hx2, e]
      have HI := Lib.hid (fun W => numbered_any s ds hsz hd hdl W)
      rw [← et] at HI
      clear et e hx hx2 hd hdl hko
      go_wp2_with fail
      refine (HI.out _).mono ?_
      rintro e w2 ⟨rfl, rfl⟩
      go_wp2_with fail
      go_round
      case rel => exact ⟨k + 1, by omega, by go_num⟩
      case measure => simp [RowKit.intOf]; omega
    · go_wp2_with fail
      go_ret
      exact ⟨rfl, hb1⟩

theorem contract (H : Type) (enc : TypeId × Value → H) (W : World) (base : Nat) (args : Array Value) (ds gs : List (DataW H)) (before : List MemPlace)
    (hval : ∀ (j : Nat) t v, Tryd.f5.params[j]? = some t → args[j]? = some v → Value.okWide Tryd.prog W .any base t v)
    (hW : DataW.Whole enc Tryd.prog Tryd.f5.params.toList Rows.fnRenamedFormSpec.vars false W args.toList ds gs before) (hL : laidMetH Tryd.prog Rows.fnRenamedFormUptoRow.laid W) (hk : Rows.uptoSmall H (ds ++ gs) = true) :
    Calls Tryd.prog 5 args W fun e W' => ∃ v, e = .returned v ∧ Rows.fnRenamedFormSpec.post enc Tryd.prog Tryd.f5 false true false false W args v W' := by
  have hW' := hW
  obtain ⟨p, q, hA0, hV, rfl, hfz, hnd⟩ := hW
  have hA : DataW.TrodAll enc Tryd.prog W 0 (fun _ => true) true Tryd.f5.params.toList args.toList ds p := hA0
  rw [Tryd.params5] at hA hval
  obtain ⟨v0, d0, rfl, rfl, h0⟩ := trodAll_one hA
  obtain ⟨rfl, rfl⟩ := trodVars_none hV
  clear hA0
  simp only [List.append_nil] at hW' hk
  have hkk : Rows.uptoBulkAll [d0] ≤ 1048576 := of_decide_eq_true hk
  simp only [Rows.uptoBulkAll] at hkk
  have hlt : ∀ x ∈ p, x.block < W.heap.size := fun x hx => by simpa using hW'.lt x hx
  obtain ⟨A, n, c, l, rfl, hr, hn, hs⟩ := open_rds (hval 0 22 v0 rfl rfl) h0 hlt (by omega)
  refine (walk A n c l hn hs W (tab_of hL) hr).mono fun e W' ⟨he, hnx⟩ => ?_
  subst he
  exact ⟨_, rfl, _, _, _, [], p, [], hW', trodAll_mk1 (shut_bool Tryd.underlying4 true), trodAll_mk1 (Below.trod laidOut (by kernel_rfl) (of_decide_eq_true (by kernel_rfl)) h0 hnx hlt), rfl, hnx.frame _, fun h => by cases h⟩

theorem reads (os : Os) {H : Type} (enc : TypeId × Value → H) : ∃ places, DataW.whole enc Tryd.prog ((World.doorLaid Tryd.prog 400 os).forCall (fun _ _ => 0) ⟨#[], #[.slice none 0 0], []⟩).memory Tryd.f5.params.toList Rows.fnRenamedFormSpec.vars false #[Value.slice none 0 0].toList 8 = some ([.nil], [], places) :=
  ⟨[], by kernel_rfl⟩

set_option maxRecDepth 100000 in
theorem lifted (os : Os) (started : os.Started) (H : Type) (enc : TypeId × Value → H) (F : Stop.Interp) :
    ReturnsInHanded {} Tryd.checked os 5 .any ((Rows.OpenSpec.upto Rows.fnRenamedFormSpec).preRow enc Tryd.prog Tryd.f5 Rows.fnRenamedFormUptoRow.domain false Rows.fnRenamedFormUptoRow.laid) (((Rows.OpenSpec.upto Rows.fnRenamedFormSpec).at F).post enc Tryd.prog Tryd.f5 false true false false) := by
  obtain ⟨places, hx⟩ := reads os enc
  refine returnsInHanded_of_row (C := Tryd.checked) (s := Rows.OpenSpec.upto Rows.fnRenamedFormSpec) own started (by kernel_rfl) Tryd.func5
    (witness_row_at (enc := enc) (C := Tryd.checked) false (World.doorLaid Tryd.prog 400 os) #[.slice none 0 0] rfl (by kernel_rfl) (by kernel_rfl) (by kernel_rfl)
      (OpenSpec.preRow_of_cond 8 hx (by kernel_rfl) (fun k hk => by cases hk; kernel_rfl) (by kernel_rfl) (met os _))) ?_
  intro W base args ds gs before hval hW _ hcond _ hL _ _
  exact contract H enc W base args ds gs before hval hW hL (hcond _ rfl)

theorem said : Rows.FnRenamedFormUptoSaid :=
  OpenClaim.holds_of_cond 5 Tryd.f5 rfl rfl rfl rfl rfl rfl rfl ⟨rfl, rfl, rfl, rfl, rfl⟩ rfl rfl rfl rfl rfl (by kernel_rfl) Tryd.func5 (by kernel_rfl)
    (of_decide_eq_true (by kernel_rfl)) (by unfold Func.isWrapper; first | (rw [if_pos (by decide +kernel)]; kernel_rfl) | (rw [if_neg (by decide +kernel)]; exact ⟨rfl, rfl⟩))
    (fun os started H enc _ F => by rw [OpenClaim.pre_eq_preRow]; exact lifted os started H enc F)

theorem plain (f : FuncId) (fn : Func) (hf : Tryd.pinned.checked.prog.funcNamed "nameplough/laws.FnRenamedForm" = some f) (hfn : Tryd.pinned.checked.prog.funcs[f]? = some fn) :
    false = Tryd.pinned.checked.prog.looks [] ∧ ∀ (j : Nat) t, fn.params[j]? = some t → Tryd.pinned.checked.prog.wantsStandIn t = false := by
  obtain rfl : f = 5 := Option.some.inj ((show Tryd.prog.funcNamed "nameplough/laws.FnRenamedForm" = some 5 by kernel_rfl).symm.trans hf) |>.symm
  obtain rfl : fn = Tryd.f5 := (Option.some.inj (Tryd.func5.symm.trans hfn)).symm
  refine ⟨by kernel_rfl, fun j t ht => ?_⟩
  rw [Tryd.params5] at ht
  obtain rfl : t = 22 := by simpa using Array.mem_of_getElem? ht
  exact (show Tryd.prog.wantsStandIn 22 = false by kernel_rfl)

theorem card : Rows.FnRenamedFormUptoCardSaid :=
  Claim7.holds_tied_plain_at .later [] _ _ _ _ said (fun _ h => by cases h) (by kernel_rfl) (fun _ h => by cases h) fnRenamedFormUpto_row_tie rfl ⟨rfl, rfl⟩ (by kernel_rfl) rfl plain (by kernel_rfl)
#print axioms card
end Go.Proofs.YtaaeahadjfiofaaDoor.fnRenamedForm
