/- For every int the law FnMinifiedApart returns true: no short name is given twice, and each is made of the signs of the head and of the tail. No condition; the package variable holds what the program's text lays (the card ties it). -/
import Derived.Test.YteoggommgbajnaaDoorLaid
import Derived.Test.YteoggommgbajnaaDoorMin
import Derived.Maps.OwnOps
import Derived.Maps.Views
namespace Go.Proofs.YteoggommgbajnaaDoor.fnMinifiedApart
open Go.ChangeShapes Go.WideShapes Go.ChangeAt Go.RowKit
open nm

theorem lookupBool {H : Type} {P : Program} {w : World} {k e t : TypeId} {b n : Nat} {D : DataW H} (h : w.ownsMap P k (plainElem P e) b n D) (K : Maps.Keyed P k) (ht : P.underlying t = some (.map k e)) (he : P.underlying e = some .bool)
    (hz : (zeroValue e).run P w = .ok (.bool false) w) {key : Value} {kl : Lit} (hkey : keyOf P k key = some kl) (hD : D.atKey kl (.lit (.bool false)) = .lit (.bool false)) : (Instr.lookup t (.map (some b)) key false).run P w = .ok (.bool false) w := by
  obtain ⟨v, ps, hrun, hv⟩ := h.lookup K ht hz (plainElem_bool he false) hkey
  rw [hD] at hv
  have : v = .bool false := by
    unfold plainElem at hv
    rw [he] at hv
    cases v <;> simp at hv
    exact congrArg _ hv.1
  rw [hrun, this]

theorem row_form {w : World} {B m : Nat} {v : Value} (h : w.ownsRow B 9 1 v m (strsOf m)) (hm : 0 < m) :
    ∃ g c, v = .slice (some ⟨g, 0, none⟩) m c ∧ g < w.heap.size ∧ ∀ k, k < m → w.cell? ⟨g, k, none⟩ = some (.string (nameS k)) := by
  obtain ⟨g, c, rfl, hlt⟩ : ∃ g c, v = .slice (some ⟨g, 0, none⟩) m c ∧ g < w.heap.size := by
    rcases h.2 with ⟨_, h0⟩ | ⟨g, cap, cur, rfl, hB, hh, _⟩
    · omega
    · exact ⟨g, cap, rfl, (Array.getElem?_eq_some_iff.1 hh).1⟩
  refine ⟨g, c, rfl, hlt, fun k hk => ?_⟩
  have := h.cells (g := g) rfl k (.string (nameS k)) (by simp [strsOf, hk])
  have hadd : (⟨g, 0, none⟩ : Addr).add k = ⟨g, k, none⟩ := by unfold Addr.add; split <;> simp_all
  rw [hadd] at this
  exact this
def keyL (k : Nat) : Lit := .string (nameS k).data.toList
def D : Nat → DataW Unit
  | 0 => .map []
  | k + 1 => (D k).put (keyL k) (.lit (.bool true))
theorem keyL_ne {j k : Nat} (h : j ≠ k) : keyL j ≠ keyL k := by
  intro e
  obtain ⟨h1, h2, h3, h4⟩ := sizes false
  refine h (name_inj (headL false) (tailL false) (by unfold headL; rw [len_eq]; exact h1) (by unfold tailL; rw [len_eq]; omega) (head_apart false) (tail_apart false) j k ?_)
  unfold keyL nameS at e
  injection e
theorem D_at (k : Nat) : ∀ j, k ≤ j → ∀ z, (D k).atKey (keyL j) z = z := by
  induction k with
  | zero => intro j _ z; rfl
  | succ k ih =>
    intro j hj z
    show ((D k).put (keyL k) (.lit (.bool true))).atKey (keyL j) z = z
    rw [Maps.atKey_put_other (keyL_ne (by omega))]
    exact ih j (by omega) z
theorem zero4 (w : World) : (zeroValue 4).run Tryd.prog w = .ok (.bool false) w := by kernel_rfl
theorem law : Maps.Keyed Tryd.prog 9 := Maps.string_keyed Tryd.underlying9
theorem key_of (k : Nat) (hk : k ≤ 5000) : keyOf Tryd.prog 9 (.string (nameS k)) = some (keyL k) := by
  refine WideMaps.keyOf_string_mk Tryd.underlying9 ?_
  have h := name_len (headL false) (tailL false) (by rw [tail_len]; decide) k (by omega)
  have e : (nameS k).size = (name (headL false) (tailL false) k).length := by unfold nameS; simp [ByteArray.size]
  unfold maxLen
  omega

set_option maxHeartbeats 1000000 in
theorem walk_in (m : Nat) (h1 : 1 ≤ m) (h2 : m ≤ 5000) (w : World) (hL : Laid false w) :
    Calls Tryd.prog 7 #[.int .i64 (m : Int)] w fun e w' => e = .returned (.bool true) ∧ Below w.heap.size w w' := by
  have HM := Lib.hid (minified_any m h2 w hL)
  have hmm := @run_makeMap Tryd.prog
  clear hL
  go_enter Tryd.func7, Tryd.ntmps7
  go_wp2_with fail
  refine HM.out.mono ?_
  rintro e w1 ⟨v, rfl, hown, hb1⟩
  obtain ⟨g, c, rfl, hg, hcs⟩ := row_form hown (by omega)
  have HC := Lib.hid hcs
  clear HM hcs hown
  go_wp2_with fail
  clear hmm
  go_loopw [18] (fun i wr => ∃ k : Nat, k ≤ m ∧ i = .int .i64 (k : Int) ∧ wr.ownsMap Tryd.prog 9 (plainElem Tryd.prog 4) w1.heap.size k (D k) ∧ Below w1.heap.size w1 wr) (fun i _ => m - (intOf i).toNat)
  case atStart => exact ⟨0, Nat.zero_le _, rfl, World.ownsMap_made _ _ _ _, (Below.refl _ _).alloc (Nat.le_refl _) _⟩
  case round =>
    obtain ⟨k, hk, rfl, hmap, hbw⟩ := hrel
    have hsz := hb1.size
    have hsz2 := hbw.size
    by_cases hlt : k < m
    · have hx := (hbw.cell (p := ⟨g, k, none⟩) hg).trans (HC.out k hlt)
      have hlk : (Instr.lookup 30 (.map (some w1.heap.size)) (.string (nameS k)) false).run Tryd.prog wr = .ok (.bool false) wr :=
        lookupBool hmap law Tryd.underlying30 Tryd.underlying4 (zero4 wr) (key_of k (by omega)) (D_at k k (Nat.le_refl _) _)
      have HF := Lib.hid (fun W => from_name false k (by omega) W)
      change Hid (∀ W, Calls Tryd.prog 13 #[.string (nameS k), .string (headB false), .string (tailB false)] W fun e w' => e = .returned (.bool true) ∧ W = w') at HF
      have HH := Lib.hid (fun W => head_any false W)
      have HT := Lib.hid (fun W => tail_any false W)
      have HK := Lib.hid (key_of k (by omega))
      have HM := Lib.hid hmap
      have HD : Hid (D (k + 1) = (D k).put (keyL k) (.lit (.bool true))) := rfl
      clear hmap
      generalize headB false = H at *
      generalize tailB false = T at *
      generalize keyL k = K at *
      generalize nameS k = R at *
      generalize D k = DK at *
      go_wp2_with fail
      refine (HH.out _).mono ?_
      rintro e w2 ⟨rfl, rfl⟩
      go_wp2_with fail
      refine (HT.out _).mono ?_
      rintro e w2 ⟨rfl, rfl⟩
      go_wp2_with fail
      refine (HF.out _).mono ?_
      rintro e w2 ⟨rfl, rfl⟩
      clear HH HT HF hx hlk
      go_wp2_with (at_mapUpdate; refine wpList_mapUpdate_own _ rfl _ _ _ 30 rfl 9 4 law Tryd.underlying30 _ w1.heap.size k _ rfl HM.out (by unfold maxLen; omega) _ _ _ rfl rfl HK.out _ [] (plainElem_bool Tryd.underlying4 true) ?_; intro w3 hown3 hgrow3)
      have hbw3 : Below w1.heap.size w1 w3 := hbw.grown hgrow3 hsz2 fun j e => by cases e; exact Nat.le_refl _
      go_roundw
      case rel => exact ⟨k + 1, by omega, by go_num, by rw [HD.out]; exact hown3, hbw3⟩
      case measure => simp [intOf]; omega
    · obtain rfl : k = m := by omega
      go_wp2_with fail
      go_ret
      exact ⟨rfl, hb1.trans (hbw.mono hsz)⟩
theorem walk (a : Int) (ha : (Lit.int .i64 a).wf = true) (w : World) (hL : Laid false w) :
    Calls Tryd.prog 7 #[.int .i64 a] w fun e w' => e = .returned (.bool true) ∧ Below w.heap.size w w' := by
  by_cases h : a < 1
  · go_enter Tryd.func7, Tryd.ntmps7
    go_wp2
    go_ret
    exact ⟨rfl, Below.refl _ _⟩
  · by_cases h2 : 5000 < a
    · go_enter Tryd.func7, Tryd.ntmps7
      go_wp2
      go_ret
      exact ⟨rfl, Below.refl _ _⟩
    · obtain ⟨n, rfl⟩ : ∃ n : Nat, a = (n : Int) := ⟨a.toNat, by omega⟩
      clear ha
      exact walk_in n (by omega) (by omega) w hL

set_option maxRecDepth 100000 in
theorem lifted (os : Os) (started : os.Started) (H : Type) (enc : TypeId × Value → H) :
    ReturnsInHanded {} Tryd.checked os 7 .any (fun w args => (Rows.fnMinifiedApartSpec.pre enc Tryd.prog Tryd.f7 [] false w args ∧ laidMetH Tryd.prog Rows.fnMinifiedApartRow.laid w) ∧ sizedMet enc Tryd.prog Tryd.f7 (OpenSpec.ofChange Rows.fnMinifiedApartSpec) false w args)
      (Rows.fnMinifiedApartSpec.post enc Tryd.prog Tryd.f7 false true false false) := by
  refine returnsInHanded_of_change_and (C := Tryd.checked) (X := fun w _ => laidMetH Tryd.prog Rows.fnMinifiedApartRow.laid w) (fun _ _ _ hh h => h.of_heap hh) nm.own started (by kernel_rfl) Tryd.func7
    (ChangeSpec.witness_shaped (enc := enc) (C := Tryd.checked) (os := os) (X := fun w _ => laidMetH Tryd.prog Rows.fnMinifiedApartRow.laid w) false (World.doorLaid Tryd.prog 400 os) #[.int .i64 0] 8 rfl (nm.shaped os _) (by kernel_rfl) (by kernel_rfl) (by kernel_rfl) (nm.met_one os _)) ?_
  intro W base args ds gs before hval0 hW _ _ hL _
  have hval : ∀ (j : Nat) t v, Tryd.f7.params[j]? = some t → args[j]? = some v → Value.okWide Tryd.prog W .any base t v := hval0
  have hW' := hW
  obtain ⟨p, q, hA0, hV, rfl, hfz, hnd⟩ := hW
  have hA : DataW.TrodAll enc Tryd.prog W 0 (fun _ => true) true Tryd.f7.params.toList args.toList ds p := hA0
  rw [Tryd.params7] at hA hval
  obtain ⟨v0, vs0, d0, ds0, p0, q0, hargs, rfl, rfl, h0, r0⟩ := trodAll_cons hA
  obtain ⟨rfl, rfl, rfl⟩ := trodAll_nil r0
  obtain rfl : args = #[v0] := by cases args; simp_all
  obtain ⟨rfl, rfl⟩ := trodVars_none hV
  obtain ⟨a0, rfl, rfl, rfl, w0⟩ := open_int Tryd.underlying3 (hval 0 3 v0 rfl rfl) h0
  clear hA0 hval0
  simp only [List.append_nil] at hW'
  refine (walk a0 w0 W (nm.of_one hL)).mono fun e W' ⟨he, hnx⟩ => ?_
  subst he
  exact ⟨_, rfl, _, _, _, [], [], [], hW', trodAll_mk1 (shut_bool Tryd.underlying4 true), (trodAll_cons_mk (shut_int Tryd.underlying3 w0) trodAll_mk0), rfl, hnx.frame _, fun h => by cases h⟩

theorem said : Rows.FnMinifiedApartSaid :=
  OpenClaim.holds_of_wide 7 Tryd.f7 rfl rfl rfl rfl rfl rfl rfl ⟨rfl, rfl, rfl, rfl, rfl⟩ rfl rfl rfl rfl rfl (by kernel_rfl) Tryd.func7 (by kernel_rfl)
    (of_decide_eq_true (by kernel_rfl)) (by unfold Func.isWrapper; first | (rw [if_pos (by decide +kernel)]; kernel_rfl) | (rw [if_neg (by decide +kernel)]; exact ⟨rfl, rfl⟩))
    (fun os started H enc _ => lifted os started H enc)

theorem plain (f : FuncId) (fn : Func) (hf : Tryd.pinned.checked.prog.funcNamed "nameplough/laws.FnMinifiedApart" = some f) (hfn : Tryd.pinned.checked.prog.funcs[f]? = some fn) :
    false = Tryd.pinned.checked.prog.looks [] ∧ ∀ (j : Nat) t, fn.params[j]? = some t → Tryd.pinned.checked.prog.wantsStandIn t = false := by
  obtain rfl : f = 7 := Option.some.inj ((show Tryd.prog.funcNamed "nameplough/laws.FnMinifiedApart" = some 7 by kernel_rfl).symm.trans hf) |>.symm
  obtain rfl : fn = Tryd.f7 := (Option.some.inj (Tryd.func7.symm.trans hfn)).symm
  refine ⟨by kernel_rfl, fun j t ht => ?_⟩
  rw [Tryd.params7] at ht
  have hm := Array.mem_of_getElem? ht
  simp at hm
  subst hm
  exact (show Tryd.prog.wantsStandIn 3 = false by kernel_rfl)

theorem card : Rows.FnMinifiedApartCardSaid :=
  Claim7.holds_tied_plain_at .later [] _ _ _ _ said (fun _ h => by cases h) (by kernel_rfl) (fun _ h => by cases h) fnMinifiedApart_row_tie rfl ⟨rfl, rfl⟩ (by kernel_rfl) rfl plain (by kernel_rfl)
#print axioms card
end Go.Proofs.YteoggommgbajnaaDoor.fnMinifiedApart
