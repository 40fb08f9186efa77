/- For every slice of impl.Scan the law FnCounts returns true: CharFreq.Scan counts as the reference does. No condition. -/
import Derived.Test.YteoggommgbajnaaCntOpen
namespace Go.Proofs.Yteoggommgbajnaa.fnCounts
open Go.ChangeShapes Go.WideShapes Go.ChangeAt Go.RowKit
open cnt

theorem row_form {w : World} {B : Nat} {v : Value} {cs : List Int} (h : w.ownsRow B 21 1 v 64 (ic cs)) :
    ∃ g c, v = .slice (some ⟨g, 0, none⟩) 64 c ∧ B ≤ g ∧ g < w.heap.size ∧ ∀ k, k < 64 → w.cell? ⟨g, k, none⟩ = some (.int .i32 (cs.getD k 0)) := by
  have hl : cs.length = 64 := by have := h.1; rw [ic_len] at this; omega
  obtain ⟨g, c, rfl, hB, hlt⟩ : ∃ g c, v = .slice (some ⟨g, 0, none⟩) 64 c ∧ B ≤ g ∧ g < w.heap.size := by
    rcases h.2 with ⟨_, h0⟩ | ⟨g, cap, cur, rfl, hB, hh, _⟩
    · cases h0
    · exact ⟨g, cap, rfl, hB, (Array.getElem?_eq_some_iff.1 hh).1⟩
  refine ⟨g, c, rfl, hB, hlt, fun k hk => ?_⟩
  have := h.cells (g := g) rfl k (.int .i32 (cs.getD k 0)) (by simp [ic, List.getElem?_eq_getElem (show k < cs.length by omega)])
  have hadd : (⟨g, 0, none⟩ : Addr).add k = ⟨g, k, none⟩ := by unfold Addr.add; split <;> simp_all
  rw [hadd] at this
  exact this

set_option maxHeartbeats 400000 in
theorem walk (A : Option Addr) (n c : Nat) (L : List (ByteArray × Int)) (hn : n * 24 ≤ 140737488351232) (w : World) (hr : Rd w w.heap.size A n L) :
    Calls Try.prog 6 #[.slice A n c] w fun e w' => e = .returned (.bool true) ∧ Below w.heap.size w w' := by
  have HR := Lib.hid hr
  clear hr
  go_enter Try.func6, Try.ntmps6
  go_wp2_with fail
  refine (counts_any A n c L (by omega) _ HR.out).mono ?_
  rintro e w1 ⟨v1, rfl, hown1, hb1⟩
  obtain ⟨g1, c1, rfl, _, hg1, hc1⟩ := row_form hown1
  have HC1 := Lib.hid hc1
  clear hown1 hc1
  go_wp2_with fail
  refine (scans_any A n c L (by omega) _ ((HR.out.below hb1).more hb1.size)).mono ?_
  rintro e w2 ⟨v2, rfl, hown2, hb2⟩
  obtain ⟨A2, c2, rfl, hr2⟩ := rd_of_own hown2 HR.out.1 HR.out.2.1
  have HR2 := Lib.hid hr2
  clear hown2 hr2
  go_wp2_with fail
  refine (specCounts_any A2 n c2 L (by omega) _ HR2.out).mono ?_
  rintro e w3 ⟨v3, rfl, hown3, hb3⟩
  obtain ⟨g3, c3, rfl, _, hg3, hc3⟩ := row_form hown3
  have HC3 := Lib.hid hc3
  clear hown3 hc3
  have hz1 := hb2.size
  have hz2 := hb3.size
  have HK := Lib.hid (fun k hk => ((hb3.cell (p := ⟨g1, k, none⟩) (show g1 < w2.heap.size by omega)).trans (hb2.cell (p := ⟨g1, k, none⟩) hg1)).trans (HC1.out k hk))
  go_wp2_with fail
  refine (same_any g1 g3 c1 c3 (all z64 L) _ (by omega) hg3 HK.out HC3.out).mono ?_
  rintro e w4 ⟨rfl, hb4⟩
  go_wp2_with fail
  go_ret
  have hz := hb1.size
  exact ⟨rfl, ((hb1.trans (hb2.mono hz)).trans (hb3.mono (by omega))).trans (hb4.mono (by omega))⟩

theorem own : ownKnob Try.prog.godebug = none := by kernel_rfl

set_option maxRecDepth 100000 in
theorem lifted (os : Os) (started : os.Started) (H : Type) (enc : TypeId × Value → H) :
    ReturnsInHanded {} Try.checked os 6 .any (Rows.fnCountsSpec.pre6 enc Try.prog Try.f6 Rows.fnCountsRow.domain false) (Rows.fnCountsSpec.post enc Try.prog Try.f6 false true false false) := by
  refine returnsInHanded_of_change_sized (C := Try.checked) own started (by kernel_rfl) Try.func6
    (ChangeSpec.witness6 (enc := enc) (C := Try.checked) false ⟨#[], #[.slice none 0 0], []⟩ 8 (by kernel_rfl) (by kernel_rfl) (by kernel_rfl) (by kernel_rfl)) ?_
  intro W base args ds gs before hval0 hW hcnd0 hsz0 _
  have hsz : (DataW.weightsEach Try.prog (Try.f6.params.toList ++ Rows.fnCountsSpec.plain.varTypes Try.prog) (ds ++ gs)).all (· ≤ reachBytes) = true := hsz0
  clear hcnd0 hsz0
  have hval : ∀ (j : Nat) t v, Try.f6.params[j]? = some t → args[j]? = some v → Value.okWide Try.prog W .any base t v := hval0
  have hW' := hW
  obtain ⟨p, q, hA0, hV, rfl, _, _⟩ := hW
  have hA : DataW.TrodAll enc Try.prog W 0 (fun _ => true) true Try.f6.params.toList args.toList ds p := hA0
  rw [Try.params6] at hA hval hsz
  obtain ⟨v0, d0, rfl, rfl, h0⟩ := trodAll_one hA
  obtain ⟨rfl, rfl⟩ := trodVars_none hV
  clear hA0 hval0
  simp only [List.append_nil] at hW'
  have hlt : ∀ x ∈ p, x.block < W.heap.size := fun x hx => by simpa using hW'.lt x hx
  obtain ⟨A, n, c, L, rfl, hr, hn⟩ := open_scans (hval 0 25 v0 rfl rfl) h0 hlt (by
    rintro elems spare rfl
    have := sized_slice hsz (j := 0) (t := 25) (e := 43) rfl rfl Try.underlying25
    rw [bytes43] at this
    have e3 : reachBytes = 140737488351232 := by decide
    omega)
  refine (walk A n c L hn W hr).mono fun e W' ⟨he, hnx⟩ => ?_
  subst he
  exact ⟨_, rfl, _, _, _, [], p, [], hW', trodAll_mk1 (shut_bool Try.underlying4 true), trodAll_mk1 (Below.trod laidOut (by kernel_rfl) (of_decide_eq_true (by kernel_rfl)) h0 hnx hlt), rfl, hnx.frame _, fun h => by cases h⟩

theorem proved : Rows.FnCountsSaid :=
  OpenClaim.holds_of_wide 6 Try.f6 rfl rfl rfl rfl rfl rfl rfl ⟨rfl, rfl, rfl, rfl, rfl⟩ rfl rfl rfl rfl rfl (by kernel_rfl) Try.func6 (by kernel_rfl)
    (of_decide_eq_true (by kernel_rfl)) (by unfold Func.isWrapper; first | (rw [if_pos (by decide +kernel)]; kernel_rfl) | (rw [if_neg (by decide +kernel)]; exact ⟨rfl, rfl⟩))
    (fun os started H enc _ => lifted os started H enc)
#print axioms proved
end Go.Proofs.Yteoggommgbajnaa.fnCounts
