/- What ExportRenamer.NextRenamedName does: it gives a name that was not given before. -/
import Derived.Test.YtaaeahadjfiofaaDoorRows
import Derived.Test.YtaaeahadjfiofaaDoorRenPlain
import Derived.Test.YtaaeahadjfiofaaDoorShelf
import Derived.WalkKit
import Derived.ProofKit
import Derived.OpenShut
import Derived.Lib.Hide
import Derived.Lib.LaidTab
import Derived.Lib.AppendIntMem
import Derived.Lib.ItoaLen
import Derived.Lib.Builder
import Derived.Lib.FrozenHead
import Derived.Maps.OwnSet
import Derived.Maps.OwnOps
import Derived.Deep.LoopGhost
import Derived.WalkSpells
namespace Go.Proofs.YtaaeahadjfiofaaDoor.ren
open Go.ChangeShapes Go.WideShapes Go.ChangeAt Go.RowKit Go.Lib

def Tab (w : World) : Prop := Lib.TabIs Tryd.prog w "internal/strconv.uint64pow10" .u64 Lib.pow10Tab
theorem gTab : Tryd.prog.globalNamed "internal/strconv.uint64pow10" = some 0 := by kernel_rfl
theorem Tab.lt {w : World} (h : Tab w) : 0 < w.heap.size := by
  have hc := Lib.TabIs.cell h gTab 0 (by decide)
  rcases Nat.lt_or_ge 0 w.heap.size with hlt | hge
  · exact hlt
  · unfold World.cell? at hc
    rw [Array.getElem?_eq_none hge] at hc
    cases hc
theorem Tab.below {w w' : World} {B : Nat} (h : Tab w) (hb : Below B w w') (hB : w.heap.size ≤ B) : Tab w' := by
  have hl := h.lt
  unfold Tab Lib.TabIs World.var? at h ⊢
  rw [gTab] at h ⊢
  simp only [Option.bind_some] at h ⊢
  rw [hb.block _ (show 0 < B by omega)]
  exact h

theorem itoa_any (u : Nat) (hu : u < 4294967296) (w : World) (ht : Tab w) :
    Calls Tryd.prog 10 #[.int .i64 (u : Int)] w fun e w' => e = .returned (.string ⟨(decDigits u).toArray⟩) ∧ Below w.heap.size w w' := by
  refine (Tryd.strconv_Itoa (u : Int) (by omega) (by omega) w ht).mono ?_
  rintro e w' ⟨rfl, k, os, rfl⟩
  exact ⟨by rw [itoa_nonneg], below_grow _ _ (Nat.le_refl _) _ _⟩

def Used (D : DataW Unit) (U : List L) : Prop := Maps.IsMap D ∧ ∀ k : L, Maps.has D (.string k) = decide (k ∈ U)
theorem used_nil : Used (.map []) [] := ⟨Maps.isMap_empty, fun k => by simp [Maps.has]⟩
theorem Used.put {D : DataW Unit} {U : List L} (h : Used D U) (s : L) (d : DataW Unit) : Used (D.put (.string s) d) (U ++ [s]) := by
  refine ⟨h.1.put _ _, fun k => ?_⟩
  by_cases e : k = s
  · subst e
    rw [Maps.has_put_same h.1 (by trivial)]
    simp
  · rw [Maps.has_put_other (by simpa using e), h.2 k]
    simp [e]
theorem zero33 (w : World) : (zeroValue 33).run Tryd.prog w = .ok (.int .u32 0) w := by kernel_rfl
theorem law : Maps.Keyed Tryd.prog 9 := Maps.string_keyed Tryd.underlying9
theorem key_of (s : ByteArray) (hs : s.size ≤ 9223372036854775807) : keyOf Tryd.prog 9 (.string s) = some (.string s.data.toList) := WideMaps.keyOf_string_mk Tryd.underlying9 hs

abbrev Own (w : World) (mb n : Nat) (D : DataW Unit) : Prop := w.ownsMap Tryd.prog 9 (plainElem Tryd.prog 33) mb n D
theorem Own.isMap {w : World} {mb n : Nat} {D : DataW Unit} (h : Own w mb n D) : ∃ es c, w.heap[mb]? = some (.map es c) := by
  obtain ⟨es, c, hb, _⟩ := h
  exact ⟨es, c, hb⟩
/-- a look-up, the answer written out. -/
theorem look {w : World} {mb n : Nat} {D : DataW Unit} {U : List L} (h : Own w mb n D) (hU : Used D U) (s : ByteArray) (hs : s.size ≤ 9223372036854775807) :
    ∃ c : Nat, c < 4294967296 ∧ (Instr.lookup 28 (.map (some mb)) (.string s) true).run Tryd.prog w = .ok (.tuple #[.int .u32 (c : Int), .bool (decide (s.data.toList ∈ U))]) w := by
  obtain ⟨v, ps, hrun, hv⟩ := h.look_ok law Tryd.underlying28 (zero33 w) (plainElem_int Tryd.underlying33 (by decide)) (key_of s hs)
  obtain ⟨c, rfl, hc, hwc⟩ := plainElem_int_inv Tryd.underlying33 hv
  rw [hU.2] at hrun
  have hb : 0 ≤ c ∧ c < 4294967296 := by
    have h1 : IntKind.u32.min = 0 := by decide
    have h2 : IntKind.u32.max = 4294967295 := by decide
    simp [Lit.wf] at hwc
    omega
  obtain ⟨m, rfl⟩ : ∃ m : Nat, c = (m : Int) := ⟨c.toNat, by omega⟩
  exact ⟨m, by omega, hrun⟩

def St (B R : Nat) (U : List L) (w : World) : Prop :=
  B ≤ R ∧ ∃ u, w.heap[R]? = some (.cells #[u, .int .i64 0] 30 (0, 0)) ∧ ((u = .map none ∧ U = []) ∨ ∃ mb D, u = .map (some mb) ∧ B ≤ mb ∧ Own w mb U.length D ∧ Used D U)
def Kept (R : Nat) (w w' : World) : Prop := ∀ k o, w.heap[k]? = some o → k ≠ R → (∀ es c, o ≠ .map es c) → w'.heap[k]? = some o
def RetName (B R : Nat) (U : List L) (name : L) (w : World) (e : Ending) (w' : World) : Prop :=
  ∃ s : L, e = .returned (.string ⟨s.toArray⟩) ∧ Renames U name s ∧ St B R (U ++ [s]) w' ∧ Kept R w w' ∧ Below B w w'

/-- Behind the store into the map. -/
theorem stored {B R mb : Nat} {U : List L} {D : DataW Unit} {w W w1 : World} {s : L} {d : DataW Unit} (hB : B ≤ R) (hmb : B ≤ mb) (hsz : B ≤ W.heap.size) (hR : W.heap[R]? = some (.cells #[.map (some mb), .int .i64 0] 30 (0, 0))) (hown : Own W mb U.length D) (hU : Used D U)
    (hk : Kept R w W) (hb : Below B w W) (h1 : Own w1 mb (U.length + 1) (D.put (.string s) d)) (hg : W.grownBy w1 (some mb)) : St B R (U ++ [s]) w1 ∧ Kept R w w1 ∧ Below B w w1 := by
  obtain ⟨es, c, hm⟩ := hown.isMap
  have hne : R ≠ mb := by rintro rfl; rw [hm] at hR; cases hR
  refine ⟨⟨hB, _, ?_, Or.inr ⟨mb, _, rfl, hmb, ?_, hU.put s d⟩⟩, ?_, hb.grown hg hsz fun k e => by cases e; exact hmb⟩
  · rw [hg.block R (Array.getElem?_eq_some_iff.1 hR).1 (by simpa using hne)]
    exact hR
  · rw [List.length_append]; exact h1
  · intro k o hk1 hkR hkm
    have h2 := hk k o hk1 hkR hkm
    rw [hg.block k (Array.getElem?_eq_some_iff.1 h2).1 (by
      intro e
      injection e with e
      subst e
      rw [hm] at h2
      exact hkm _ _ (Option.some.inj h2).symm)]
    exact h2
theorem kept_below {R : Nat} {w w' : World} (h : Below w.heap.size w w') : Kept R w w' := fun k _ hk _ _ => (h.block k (Array.getElem?_eq_some_iff.1 hk).1).trans hk
theorem Kept.trans {R : Nat} {a b c : World} (h : Kept R a b) (k : Kept R b c) : Kept R a c := fun i o hi hR hm => k i o (h i o hi hR hm) hR hm
theorem str_eta (s : ByteArray) : (⟨s.data.toList.toArray⟩ : ByteArray) = s := by cases s; rfl

set_option maxHeartbeats 1000000 in
theorem next_new (B R : Nat) (U : List L) (name : ByteArray) (hn : name.size ≤ 2000000) (w : World) (hB : B ≤ R) (hBw : B ≤ w.heap.size) (mb : Nat) (D : DataW Unit) (hR : w.heap[R]? = some (.cells #[.map (some mb), .int .i64 0] 30 (0, 0))) (hmb : B ≤ mb) (hown : Own w mb U.length D) (hU : Used D U)
    (hUl : U.length ≤ 2000000) (hnew : name.data.toList ∉ U) :
    Calls Tryd.prog 8 #[.pointer (some ⟨R, 0, none⟩), .string name] w (RetName B R U name.data.toList w) := by
  obtain ⟨c, hc, hlk⟩ := look hown hU name (by omega)
  rw [decide_eq_false hnew] at hlk
  have hc0 : w.cell? ⟨R, 0, none⟩ = some (.map (some mb)) := by rw [Lib.cell_of_heap hR]; rfl
  have HK := Lib.hid (key_of name (by omega))
  have HO := Lib.hid hown
  have HU := Lib.hid hU
  have HR := Lib.hid hR
  have HN := Lib.hid hnew
  clear hown hU hR hnew
  have hen := fun (w : World) => run_eql_map_nil (P := Tryd.prog) w 28 9 33 (some mb) Tryd.underlying28
  go_enter Tryd.func8, Tryd.ntmps8
  go_wp2_with (at_mapUpdate; refine wpList_mapUpdate_own _ rfl _ _ _ 28 rfl 9 33 law Tryd.underlying28 _ mb U.length _ rfl HO.out (by unfold maxLen; omega) _ _ _ rfl rfl HK.out _ [] (plainElem_int Tryd.underlying33 (by decide)) ?_; intro w1 hown1 hgrow1)
  go_ret
  obtain ⟨h1, h2, h3⟩ := stored hB hmb hBw HR.out HO.out HU.out (kept_below (Below.refl _ w)) (Below.refl _ w) hown1 hgrow1
  exact ⟨name.data.toList, by rw [str_eta]; rfl, ren_same HN.out, h1, h2, h3⟩

set_option maxHeartbeats 1000000 in
theorem next_first (B R : Nat) (name : ByteArray) (hn : name.size ≤ 2000000) (w : World) (hB : B ≤ R) (hBw : B ≤ w.heap.size) (hR : w.heap[R]? = some (.cells #[.map none, .int .i64 0] 30 (0, 0))) :
    Calls Tryd.prog 8 #[.pointer (some ⟨R, 0, none⟩), .string name] w (RetName B R [] name.data.toList w) := by
  have hlt : R < w.heap.size := (Array.getElem?_eq_some_iff.1 hR).1
  have hs0 : (w.setCell ⟨R, 0, none⟩ (.map (some w.heap.size))).heap.size = w.heap.size := by simp [World.setCell]
  have hR1 : ((w.setCell ⟨R, 0, none⟩ (.map (some w.heap.size))).alloc (.map #[] 0)).heap[R]? = some (.cells #[.map (some w.heap.size), .int .i64 0] 30 (0, 0)) := by
    rw [Below.heap_alloc _ _ R (by rw [hs0]; exact hlt)]
    simp [World.setCell, Array.getElem?_modify, hR]
  have hown : Own ((w.setCell ⟨R, 0, none⟩ (.map (some w.heap.size))).alloc (.map #[] 0)) w.heap.size 0 (.map []) := by
    have := World.ownsMap_made (H := Unit) (w.setCell ⟨R, 0, none⟩ (.map (some w.heap.size))) Tryd.prog 9 (plainElem Tryd.prog 33)
    rw [hs0] at this
    exact this
  have hk : Kept R w ((w.setCell ⟨R, 0, none⟩ (.map (some w.heap.size))).alloc (.map #[] 0)) := fun k o hk hkR _ => by
    rw [Below.heap_alloc _ _ k (by rw [hs0]; exact (Array.getElem?_eq_some_iff.1 hk).1), Below.heap_setCell _ ⟨R, 0, none⟩ _ k hkR]
    exact hk
  have hb : Below B w ((w.setCell ⟨R, 0, none⟩ (.map (some w.heap.size))).alloc (.map #[] 0)) := ((Below.refl B w).setCell (p := ⟨R, 0, none⟩) hB _).alloc (by rw [hs0]; exact hBw) _
  have hsz : B ≤ ((w.setCell ⟨R, 0, none⟩ (.map (some w.heap.size))).alloc (.map #[] 0)).heap.size := by have := hb.size; omega
  obtain ⟨c, hc, hlk⟩ := look (U := []) hown used_nil name (by omega)
  rw [decide_eq_false (by simp)] at hlk
  have hc0 : w.cell? ⟨R, 0, none⟩ = some (.map none) := by rw [Lib.cell_of_heap hR]; rfl
  have hf0 : w.frozen? ⟨R, 0, none⟩ = false := Lib.frozen_of_heap hR 0
  have HK := Lib.hid (key_of name (by omega))
  have HO := Lib.hid hown
  have HR := Lib.hid hR1
  have HKE := Lib.hid hk
  have HB := Lib.hid hb
  clear hown hR hR1 hk hb hs0
  have hen := fun (w : World) => run_eql_map_nil (P := Tryd.prog) w 28 9 33 none Tryd.underlying28
  have hmm := @run_makeMap Tryd.prog
  go_enter Tryd.func8, Tryd.ntmps8
  go_wp2_with (at_mapUpdate; refine wpList_mapUpdate_own _ rfl _ _ _ 28 rfl 9 33 law Tryd.underlying28 _ w.heap.size 0 _ rfl HO.out (by decide) _ _ _ rfl rfl HK.out _ [] (plainElem_int Tryd.underlying33 (by decide)) ?_; intro w1 hown1 hgrow1)
  go_ret
  obtain ⟨h1, h2, h3⟩ := stored (U := []) hB hBw hsz HR.out HO.out used_nil HKE.out HB.out hown1 hgrow1
  exact ⟨name.data.toList, by rw [str_eta]; rfl, ren_same (by simp), h1, h2, h3⟩

def RelT (name : L) (t0 : Nat) (U : List L) (W : World) (k : Nat) (t : Value) (wr : World) : Prop :=
  ∃ j : Nat, j + k = U.length + 1 ∧ t = .int .u32 (((t0 + j) % 4294967296 : Nat) : Int) ∧ Hid (∀ i, i < j → tried name t0 (i + 1) ∈ U) ∧ Below W.heap.size W wr
set_option maxHeartbeats 2000000 in
theorem next_old (B R : Nat) (U : List L) (name : ByteArray) (hn : name.size ≤ 2000000) (w : World) (hT : Tab w) (hB : B ≤ R) (hBw : B ≤ w.heap.size) (mb : Nat) (D : DataW Unit) (hR : w.heap[R]? = some (.cells #[.map (some mb), .int .i64 0] 30 (0, 0))) (hmb : B ≤ mb) (hown : Own w mb U.length D) (hU : Used D U)
    (hUl : U.length ≤ 2000000) (hold : name.data.toList ∈ U) :
    Calls Tryd.prog 8 #[.pointer (some ⟨R, 0, none⟩), .string name] w (RetName B R U name.data.toList w) := by
  obtain ⟨t0, hc, hlk⟩ := look hown hU name (by omega)
  rw [decide_eq_true hold] at hlk
  have hc0 : w.cell? ⟨R, 0, none⟩ = some (.map (some mb)) := by rw [Lib.cell_of_heap hR]; rfl
  have HO := Lib.hid hown
  have HU := Lib.hid hU
  have HR := Lib.hid hR
  have HOLD := Lib.hid hold
  have HT := Lib.hid hT
  clear hown hU hR hold hT
  have hen := fun (w : World) => run_eql_map_nil (P := Tryd.prog) w 28 9 33 (some mb) Tryd.underlying28
  go_enter Tryd.func8, Tryd.ntmps8
  go_wp2_with fail
  clear hlk hen
  go_loopg [5] (U.length + 1) (fun k t wr => RelT name.data.toList t0 U w k t wr)
  case atStart => exact ⟨0, by omega, by rw [Nat.add_zero, Nat.mod_eq_of_lt hc], fun i hi => absurd hi (by omega), Below.refl _ _⟩
  case round =>
    obtain ⟨j, hj, rfl, hall, hbw⟩ := hrel
    have hjl := turns_le (by omega) hall.out
    have hx : (t0 + j) % 4294967296 < 4294967296 := Nat.mod_lt _ (by omega)
    have hy : (t0 + (j + 1)) % 4294967296 < 4294967296 := Nat.mod_lt _ (by omega)
    have hw : IntKind.u32.wrap ((((t0 + j) % 4294967296 : Nat) : Int) + 1) = (((t0 + (j + 1)) % 4294967296 : Nat) : Int) := by
      simp [IntKind.wrap, IntKind.bits, IntKind.signed]
      omega
    have HTR : Hid (tried name.data.toList t0 (j + 1) = name.data.toList ++ decDigits ((t0 + (j + 1)) % 4294967296)) := rfl
    generalize (t0 + j) % 4294967296 = x at *
    generalize hyd : (t0 + (j + 1)) % 4294967296 = y at *
    have HY := Lib.hid hyd
    clear hyd
    have HI := Lib.hid (itoa_any y hy wr (HT.out.below hbw (Nat.le_refl _)))
    obtain ⟨T, hTd⟩ : ∃ T : ByteArray, T = ⟨(decDigits y).toArray⟩ := ⟨_, rfl⟩
    rw [← hTd] at HI
    have hTl : T.data.toList = decDigits y := by rw [hTd]
    have hTs : T.size ≤ 20 := by
      have h1 : T.size = T.data.toList.length := Array.length_toList.symm
      rw [h1, hTl, decDigits_length]
      exact nDigits_le20 y (by omega)
    have HTL := Lib.hid hTl
    clear hTd hTl
    go_wp2_with fail
    refine HI.out.mono ?_
    rintro e w1 ⟨rfl, hb1⟩
    have hbw1 := hbw.trans (hb1.mono hbw.size)
    have hcc : w1.cell? ⟨R, 0, none⟩ = some (.map (some mb)) := (hbw1.cell (p := ⟨R, 0, none⟩) (Array.getElem?_eq_some_iff.1 HR.out).1).trans hc0
    have hown1 : Own w1 mb U.length D := HO.out.kept (row := none) ⟨hbw1.os, hbw1.tape, hbw1.output, hbw1.size, fun k hk _ => hbw1.block k hk⟩ (by simp)
    have hsz2 : (name ++ T).size ≤ 9223372036854775807 := by rw [ByteArray.size_append]; omega
    obtain ⟨c2, hc2, hlk2⟩ := look hown1 HU.out (name ++ T) hsz2
    have hcat : (name ++ T).data.toList = tried name.data.toList t0 (j + 1) := by
      rw [HTR.out, ← HTL.out, ByteArray.data_append, Array.toList_append]
    rw [hcat] at hlk2
    have HCAT := Lib.hid hcat
    clear hw HI hbw hb1 hcat HTL HTR
    by_cases hin : tried name.data.toList t0 (j + 1) ∈ U
    · rw [decide_eq_true hin] at hlk2
      have HIN : Hid (∀ i, i < j + 1 → tried name.data.toList t0 (i + 1) ∈ U) := by
        intro i hi
        by_cases e : i = j
        · subst e; exact hin
        · exact hall.out i (by omega)
      clear hin hall
      go_wp2_with fail
      go_roundg (gk - 1)
      case rel => exact ⟨j + 1, by omega, by rw [HY.out], HIN, hbw1⟩
      case measure => omega
    · rw [decide_eq_false hin] at hlk2
      have HNIN := Lib.hid hin
      have HK := Lib.hid (key_of (name ++ T) hsz2)
      have HO1 := Lib.hid hown1
      have hwf : (Lit.int .u32 (y : Int)).wf = true := by
        have h1 : IntKind.u32.min = 0 := by decide
        have h2 : IntKind.u32.max = 4294967295 := by decide
        simp [Lit.wf]
        omega
      clear hin hall hown1
      go_wp2_with (at_mapUpdate; refine wpList_mapUpdate_own _ rfl _ _ _ 28 rfl 9 33 law Tryd.underlying28 _ mb U.length _ rfl HO1.out (by unfold maxLen; omega) _ _ _ rfl rfl HK.out _ [] (plainElem_int Tryd.underlying33 hwf) ?_; intro w2 hown2 hgrow2)
      go_ret
      have hRw : w1.heap[R]? = some (.cells #[.map (some mb), .int .i64 0] 30 (0, 0)) := (hbw1.block R (Array.getElem?_eq_some_iff.1 HR.out).1).trans HR.out
      rw [HCAT.out] at hown2
      obtain ⟨h1, h2, h3⟩ := stored hB hmb (by have := hbw1.size; omega) hRw HO1.out HU.out (kept_below hbw1) (hbw1.mono hBw) hown2 hgrow2
      refine ⟨tried name.data.toList t0 (j + 1), by rw [← HCAT.out, str_eta]; rfl, ⟨HNIN.out, fun h => absurd HOLD.out h, decDigits ((t0 + (j + 1)) % 4294967296), dec_dig _, ?_, rfl⟩, h1, h2, h3⟩
      rw [decDigits_length]
      exact nDigits_le20 _ (by omega)

theorem next_any (B R : Nat) (U : List L) (name : ByteArray) (hn : name.size ≤ 2000000) (w : World) (hT : Tab w) (hBw : B ≤ w.heap.size) (hS : St B R U w) (hUl : U.length ≤ 2000000) :
    Calls Tryd.prog 8 #[.pointer (some ⟨R, 0, none⟩), .string name] w (RetName B R U name.data.toList w) := by
  obtain ⟨hB, u, hR, ⟨rfl, rfl⟩ | ⟨mb, D, rfl, hmb, hown, hU⟩⟩ := hS
  · exact next_first B R name hn w hB hBw hR
  · by_cases h : name.data.toList ∈ U
    · exact next_old B R U name hn w hT hB hBw mb D hR hmb hown hU hUl h
    · exact next_new B R U name hn w hB hBw mb D hR hmb hown hU hUl h
end Go.Proofs.YtaaeahadjfiofaaDoor.ren
