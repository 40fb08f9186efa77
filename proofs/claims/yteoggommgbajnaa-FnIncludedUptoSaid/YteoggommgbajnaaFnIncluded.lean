/- For all slices of impl.Scan, of bulk at most 1048576 together, the law FnIncluded returns true: what is counted of some texts, and of others, is what is counted of all. -/
import Derived.Test.YteoggommgbajnaaIncl
import Derived.Test.YteoggommgbajnaaFnCounts
import Derived.JoinedCond
namespace Go.Proofs.Yteoggommgbajnaa.fnIncluded
open Go.ChangeShapes Go.WideShapes Go.ChangeAt Go.RowKit
open cnt
open fnCounts (row_form)

set_option maxHeartbeats 1000000 in
theorem walk (A : Option Addr) (n c : Nat) (L : List (ByteArray × Int)) (hn : n ≤ 1048576) (A2 : Option Addr) (m c2 : Nat) (M : List (ByteArray × Int)) (hm : m ≤ 1048576) (hA : A = none → n = 0 ∧ c = 0) (hA2 : A2 = none → m = 0 ∧ c2 = 0) (w : World) (hr : Rd w w.heap.size A n L) (hr2 : Rd w w.heap.size A2 m M) :
    Calls Try.prog 7 #[.slice A n c, .slice A2 m c2] w fun e w' => e = .returned (.bool true) ∧ Below w.heap.size w w' := by
  have HR := Lib.hid hr
  have HR2 := Lib.hid hr2
  have HA := Lib.hid hA
  have HA2 := Lib.hid hA2
  have HN := Lib.hid (show (flat []) ++ flat L = flat L by rfl)
  have HF := Lib.hid (flat_append L M)
  clear hr hr2 hA hA2
  have hb0 : Below w.heap.size w (w.alloc (.cells #[] 43)) := (Below.refl _ _).alloc (Nat.le_refl _) _
  have HB0 := Lib.hid hb0
  clear hb0
  go_enter Try.func7, Try.ntmps7
  go_wp2_with (first
    | (refine append_rd rfl (.tmp 6) (.tmp 7) rfl w.heap.size _ 0 (flat []) rfl (World.ownsRow_made w #[] 0 (Nat.le_refl _) (Nat.zero_le _) rfl) A n c w.heap.size L rfl (HR.out.below HB0.out) HA.out (by unfold maxLen; omega) (by omega) (by simp) ?_; intro v1 w1 hown1 hgrow1; have HO1 := Lib.hid hown1; have HB1 := Lib.hid (HB0.out.grown hgrow1 (by simp) fun k e => (by have e' : some w.heap.size = some k := e; injection e' with e'; omega)); have hz1 := HB1.out.size; clear hown1 hgrow1 HB0)
    | (refine append_rd rfl (.tmp 8) (.tmp 9) rfl w.heap.size _ (0 + n) (flat [] ++ flat L) rfl HO1.out A2 m c2 w.heap.size M rfl (HR2.out.below HB1.out) HA2.out (by unfold maxLen; omega) (by omega) hz1 ?_; intro v2 w2 hown2 hgrow2; have HO2 := Lib.hid hown2; have HB2 := Lib.hid (HB1.out.grown hgrow2 hz1 fun k e => (HO1.out.lt k e).1); have hz2 := HB2.out.size; clear hown2 hgrow2 HB1 HO1)
    | fail)
  have hown2 := HO2.out
  rw [HN.out, ← HF.out, Nat.zero_add] at hown2
  have hlm : (L ++ M).length = n + m := by rw [List.length_append, HR.out.1, HR2.out.1]
  obtain ⟨A3, c3, rfl, hr3⟩ := rd_of_own43 hown2 hlm (fun p hp => by
    rcases List.mem_append.1 hp with h | h
    · exact HR.out.2.1 p h
    · exact HR2.out.2.1 p h)
  have HR3 := Lib.hid hr3
  have HRa := Lib.hid ((HR.out.below HB2.out).more hz2)
  have HRb := Lib.hid ((HR2.out.below HB2.out).more hz2)
  clear hown2 hlm hr3 HO2 HR HR2 HA HA2 HN HF
  refine (included_any A n c L (by omega) A2 m c2 M (by omega) _ HRa.out HRb.out).mono ?_
  rintro e w3 ⟨v3, rfl, hown3, hb3⟩
  obtain ⟨g3, q3, rfl, _, hg3, hc3⟩ := row_form hown3
  have HC3 := Lib.hid hc3
  have hz3 := hb3.size
  have HR4 := Lib.hid ((HR3.out.below hb3).more hz3)
  clear hown3 hc3 HR3 HRa HRb
  go_wp2_with fail
  refine (counts_any A3 (n + m) c3 (L ++ M) (by omega) _ HR4.out).mono ?_
  rintro e w4 ⟨v4, rfl, hown4, hb4⟩
  obtain ⟨g4, q4, rfl, _, hg4, hc4⟩ := row_form hown4
  have HC4 := Lib.hid hc4
  have hz4 := hb4.size
  have HK := Lib.hid (fun k hk => (hb4.cell (p := ⟨g3, k, none⟩) hg3).trans (HC3.out k hk))
  have HR5 := Lib.hid ((HR4.out.below hb4).more hz4)
  clear hown4 hc4 HR4 HC3
  go_wp2_with fail
  refine (same_any g3 g4 q3 q4 (all z64 (L ++ M)) _ (by omega) hg4 HK.out HC4.out).mono ?_
  rintro e w5 ⟨rfl, hb5⟩
  have hz5 := hb5.size
  have HR6 := Lib.hid ((HR5.out.below hb5).more hz5)
  clear HK HC4 HR5
  go_wp2_with fail
  refine (counts_any A3 (n + m) c3 (L ++ M) (by omega) _ HR6.out).mono ?_
  rintro e w6 ⟨v6, rfl, hown6, hb6⟩
  obtain ⟨g6, q6, rfl, _, hg6, hc6⟩ := row_form hown6
  clear hown6 hc6 HR6
  go_wp2_with fail
  go_ret
  exact ⟨rfl, ((((HB2.out.trans (hb3.mono hz2)).trans (hb4.mono (by omega))).trans (hb5.mono (by omega))).trans (hb6.mono (by omega)))⟩

theorem own : ownKnob Try.prog.godebug = none := by kernel_rfl

theorem one_le {H : Type} (d : DataW H) : 1 ≤ Rows.uptoBulk d := by
  cases d with
  | lit l => cases l <;> simp [Rows.uptoBulk]
  | nil => simp [Rows.uptoBulk]
  | ptr d => simp [Rows.uptoBulk]
  | slice elems spare => simp [Rows.uptoBulk]
  | agg parts => simp [Rows.uptoBulk]
  | iface t d => simp [Rows.uptoBulk]
  | map entries => simp [Rows.uptoBulk]
  | held h => simp [Rows.uptoBulk]
theorem length_le {H : Type} (l : List (DataW H)) : l.length ≤ Rows.uptoBulkAll l := by
  induction l with
  | nil => simp [Rows.uptoBulkAll]
  | cons x r ih => have := one_le x; simp only [Rows.uptoBulkAll, List.length_cons]; omega
theorem slice_le {H : Type} (elems spare : List (DataW H)) : elems.length + spare.length ≤ Rows.uptoBulk (.slice elems spare) := by
  have h1 := length_le elems
  have h2 := length_le spare
  simp only [Rows.uptoBulk]
  omega

theorem contract (H : Type) (enc : TypeId × Value → H) (W : World) (base : Nat) (args : Array Value) (ds gs : List (DataW H)) (before : List MemPlace)
    (hval : ∀ (j : Nat) t v, Try.f7.params[j]? = some t → args[j]? = some v → Value.okWide Try.prog W .any base t v)
    (hW : DataW.Whole enc Try.prog Try.f7.params.toList Rows.fnIncludedSpec.vars false W args.toList ds gs before) (hk : Rows.uptoSmall H (ds ++ gs) = true) :
    Calls Try.prog 7 args W fun e W' => ∃ v, e = .returned v ∧ Rows.fnIncludedSpec.post enc Try.prog Try.f7 false true false false W args v W' := by
  have hW' := hW
  obtain ⟨p, q, hA0, hV, rfl, hfz, hnd⟩ := hW
  have hA : DataW.TrodAll enc Try.prog W 0 (fun _ => true) true Try.f7.params.toList args.toList ds p := hA0
  rw [Try.params7] at hA hval
  obtain ⟨v0, vs0, d0, ds0, p0, q0, hargs, rfl, rfl, h0, r0⟩ := trodAll_cons hA
  obtain ⟨v1, vs1, d1, ds1, p1, q1, rfl, rfl, rfl, h1, r1⟩ := trodAll_cons r0
  obtain ⟨rfl, rfl, rfl⟩ := trodAll_nil r1
  obtain rfl : args = #[v0, v1] := by cases args; simp_all
  obtain ⟨rfl, rfl⟩ := trodVars_none hV
  clear hA0
  simp only [List.append_nil] at hW' hk
  have hkk : Rows.uptoBulkAll [d0, d1] ≤ 1048576 := of_decide_eq_true hk
  simp only [Rows.uptoBulkAll] at hkk
  have hlt : ∀ x ∈ p0 ++ p1, x.block < W.heap.size := fun x hx => by simpa using hW'.lt x hx
  have hl0 : ∀ x ∈ p0, x.block < W.heap.size := fun x hx => hlt x (List.mem_append_left _ hx)
  have hl1 : ∀ x ∈ p1, x.block < W.heap.size := fun x hx => hlt x (List.mem_append_right _ hx)
  obtain ⟨A, n, c, L, rfl, hr, hn, hAn⟩ := open_scansN 1048576 (hval 0 25 v0 rfl rfl) h0 hl0 (by
    rintro elems spare rfl
    have := slice_le elems spare
    omega)
  obtain ⟨A2, m, c2, M, rfl, hr2, hm, hAm⟩ := open_scansN 1048576 (hval 1 25 v1 rfl rfl) h1 hl1 (by
    rintro elems spare rfl
    have := slice_le elems spare
    omega)
  refine (walk A n c L hn A2 m c2 M hm hAn hAm W hr hr2).mono fun e W' ⟨he, hnx⟩ => ?_
  subst he
  exact ⟨_, rfl, [d0, d1], [], p0 ++ p1, [], p0 ++ (p1 ++ []), [], by simpa using hW', trodAll_mk1 (shut_bool Try.underlying4 true),
    trodAll_cons_mk (Below.trod laidOut (by kernel_rfl) (of_decide_eq_true (by kernel_rfl)) h0 hnx hl0) (trodAll_cons_mk (Below.trod laidOut (by kernel_rfl) (of_decide_eq_true (by kernel_rfl)) h1 hnx hl1) trodAll_mk0), rfl, hnx.frame _, fun h => by cases h⟩

set_option maxRecDepth 100000 in
theorem lifted (os : Os) (started : os.Started) (H : Type) (enc : TypeId × Value → H) (F : Stop.Interp) :
    ReturnsInHanded {} Try.checked os 7 .any ((Rows.OpenSpec.upto Rows.fnIncludedSpec).pre6 enc Try.prog Try.f7 Rows.fnIncludedUptoRow.domain false) (((Rows.OpenSpec.upto Rows.fnIncludedSpec).at F).post enc Try.prog Try.f7 false true false false) := by
  refine returnsInHanded_of_cond (C := Try.checked) (s := Rows.OpenSpec.upto Rows.fnIncludedSpec) (k := Rows.uptoSmall) rfl own started (by kernel_rfl) Try.func7
    (OpenSpec.witness (enc := enc) (C := Try.checked) (s := Rows.OpenSpec.upto Rows.fnIncludedSpec) (k := Rows.uptoSmall) rfl false ⟨#[], #[.slice none 0 0, .slice none 0 0], []⟩ 8 (by kernel_rfl) (by kernel_rfl) (by kernel_rfl)
      (x := ([.nil, .nil], [], [])) (by kernel_rfl) rfl (by kernel_rfl)) ?_
  intro W base args ds gs before hval hW _ hk _
  exact contract H enc W base args ds gs before hval hW hk

theorem proved : Rows.FnIncludedUptoSaid :=
  OpenClaim.holds_of_cond 7 Try.f7 rfl rfl rfl rfl rfl rfl rfl ⟨rfl, rfl, rfl, rfl, rfl⟩ rfl rfl rfl rfl rfl (by kernel_rfl) Try.func7 (by kernel_rfl)
    (of_decide_eq_true (by kernel_rfl)) (by unfold Func.isWrapper; first | (rw [if_pos (by decide +kernel)]; kernel_rfl) | (rw [if_neg (by decide +kernel)]; exact ⟨rfl, rfl⟩))
    (fun os started H enc _ F => lifted os started H enc F)
#print axioms proved
end Go.Proofs.Yteoggommgbajnaa.fnIncluded
