/- What spec.Sorted computes: the same signs in the same order. -/
import Derived.Test.YtpmihkhmijndaaaDoorShufPlain
import Derived.Test.YtpmihkhmijndaaaDoorCntSpec
import Derived.Test.YtpmihkhmijndaaaDoorNameSpec
import Derived.Maps.AppendAt
import Derived.WalkLawsBesides
import Derived.Laws.Strings2
import Derived.Lib.FrozenHead
import Derived.OwnWalk
import Derived.RegionTactic
import Derived.BigRegion
namespace Go.Proofs.YtpmihkhmijndaaaDoor.srt
open Go.ChangeShapes Go.WideShapes Go.ChangeAt Go.RowKit
open cnt (arr arr_get ic)

/-- Chosen so far, and what is left. -/
structure Inv (N : Nat) (cs : List Int) (sel rest : List Nat) : Prop where
  perm : (sel ++ rest).Perm (List.range N)
  pair : sel.Pairwise (before cs)
  ahead : ∀ a ∈ sel, ∀ b ∈ rest, before cs a b
theorem Inv.start (N : Nat) (cs : List Int) : Inv N cs [] (List.range N) := ⟨List.Perm.refl _, List.Pairwise.nil, fun a ha => by cases ha⟩
theorem Inv.nodup {N : Nat} {cs : List Int} {sel rest : List Nat} (h : Inv N cs sel rest) : (sel ++ rest).Nodup := h.perm.symm.nodup List.nodup_range
theorem Inv.mem {N : Nat} {cs : List Int} {sel rest : List Nat} (h : Inv N cs sel rest) (j : Nat) : (j ∈ sel ∨ j ∈ rest) ↔ j < N := by
  rw [← List.mem_append, h.perm.mem_iff, List.mem_range]
theorem Inv.len {N : Nat} {cs : List Int} {sel rest : List Nat} (h : Inv N cs sel rest) : sel.length + rest.length = N := by
  have := h.perm.length_eq
  rwa [List.length_append, List.length_range] at this
theorem Inv.not_both {N : Nat} {cs : List Int} {sel rest : List Nat} (h : Inv N cs sel rest) {j : Nat} (h1 : j ∈ sel) (h2 : j ∈ rest) : False :=
  (List.nodup_append.1 h.nodup).2.2 j h1 j h2 rfl
theorem Inv.sel_of {N : Nat} {cs : List Int} {sel rest : List Nat} (h : Inv N cs sel rest) (hl : sel.length = N) : IsSel N cs sel := by
  have := h.len
  have hr : rest = [] := List.length_eq_zero_iff.1 (by omega)
  subst hr
  have hp := h.perm
  rw [List.append_nil] at hp
  exact ⟨hp, h.pair⟩
/-- The best of those below i. -/
def Best (cs : List Int) (sel : List Nat) (i : Nat) : Option Nat → Prop
  | none => ∀ j, j < i → j ∈ sel
  | some b => b < i ∧ b ∉ sel ∧ ∀ j, j < i → j ∉ sel → j ≠ b → before cs b j
def bestV : Option Nat → Int
  | none => -1
  | some b => b
theorem Best.skip {cs : List Int} {sel : List Nat} {i : Nat} {o : Option Nat} (h : Best cs sel i o) (hi : i ∈ sel) : Best cs sel (i + 1) o := by
  cases o with
  | none =>
    intro j hj
    rcases Nat.lt_or_ge j i with h1 | h1
    · exact h j h1
    · have : j = i := by omega
      subst this; exact hi
  | some b =>
    refine ⟨Nat.lt_succ_of_lt h.1, h.2.1, fun j hj hn hb => ?_⟩
    rcases Nat.lt_or_ge j i with h1 | h1
    · exact h.2.2 j h1 hn hb
    · have : j = i := by omega
      subst this; exact absurd hi hn
theorem Best.first {cs : List Int} {sel : List Nat} {i : Nat} (h : Best cs sel i none) (hi : i ∉ sel) : Best cs sel (i + 1) (some i) := by
  refine ⟨Nat.lt_succ_self _, hi, fun j hj hn hb => ?_⟩
  exact absurd (h j (by omega)) hn
theorem Best.more {cs : List Int} {sel : List Nat} {i b : Nat} (h : Best cs sel i (some b)) (hi : i ∉ sel) (hc : cs.getD b 0 < cs.getD i 0) : Best cs sel (i + 1) (some i) := by
  refine ⟨Nat.lt_succ_self _, hi, fun j hj hn hb => ?_⟩
  by_cases e : j = b
  · subst e; exact Or.inl hc
  · have := h.2.2 j (by omega) hn e
    unfold before at *
    omega
theorem Best.keep {cs : List Int} {sel : List Nat} {i b : Nat} (h : Best cs sel i (some b)) (hc : ¬ cs.getD b 0 < cs.getD i 0) : Best cs sel (i + 1) (some b) := by
  refine ⟨Nat.lt_succ_of_lt h.1, h.2.1, fun j hj hn hb => ?_⟩
  rcases Nat.lt_or_ge j i with h1 | h1
  · exact h.2.2 j h1 hn hb
  · have : j = i := by omega
    subst this
    have := h.1
    unfold before
    omega
theorem Inv.next {N : Nat} {cs : List Int} {sel rest : List Nat} (h : Inv N cs sel rest) (hl : sel.length < N) {o : Option Nat} (hb : Best cs sel N o) :
    ∃ b, o = some b ∧ b < N ∧ b ∉ sel ∧ Inv N cs (sel ++ [b]) (rest.erase b) := by
  cases o with
  | none =>
    exfalso
    have := h.len
    rcases hr : rest with _ | ⟨c, r⟩
    · rw [hr] at this; simp at this; omega
    · have hc : c ∈ rest := by rw [hr]; simp
      exact h.not_both (hb c ((h.mem c).1 (Or.inr hc))) hc
  | some b =>
    obtain ⟨h1, h2, h3⟩ := hb
    have hbr : b ∈ rest := ((h.mem b).2 h1).resolve_left h2
    have hnd := (List.nodup_append.1 h.nodup).2.1
    refine ⟨b, rfl, h1, h2, ?_, ?_, ?_⟩
    · rw [List.append_assoc]
      exact ((List.perm_cons_erase hbr).symm.append_left sel).trans h.perm
    · rw [List.pairwise_append]
      refine ⟨h.pair, List.pairwise_singleton _ _, fun a ha c hc => ?_⟩
      rw [List.mem_singleton] at hc
      subst hc
      exact h.ahead a ha c hbr
    · intro a ha c hc
      have hcm := (hnd.mem_erase_iff).1 hc
      rcases List.mem_append.1 ha with h4 | h4
      · exact h.ahead a h4 c hcm.2
      · rw [List.mem_singleton] at h4
        subst h4
        exact h3 c ((h.mem c).1 (Or.inr hcm.2)) (fun hs => h.not_both hs hcm.2) hcm.1

def usedC (N : Nat) (sel : List Nat) : List Value := (List.range N).map fun i => .bool (decide (i ∈ sel))
theorem used_at {N : Nat} {sel : List Nat} {i : Nat} (h : i < N) : (usedC N sel)[i]? = some (.bool (decide (i ∈ sel))) := by
  simp [usedC, h]
theorem used_set {N : Nat} {sel : List Nat} {b : Nat} : (usedC N sel).set b (.bool true) = usedC N (sel ++ [b]) := by
  refine List.ext_getElem? fun j => ?_
  rw [List.getElem?_set]
  by_cases e : b = j
  · subst e
    by_cases hb : b < N
    · rw [if_pos rfl, if_pos (by simpa [usedC] using hb), used_at hb]; simp
    · rw [if_pos rfl, if_neg (by simpa [usedC] using hb), List.getElem?_eq_none (by simp [usedC]; omega)]
  · rw [if_neg e]
    by_cases hb : j < N
    · rw [used_at hb, used_at hb]
      have e' : ¬ j = b := fun h => e h.symm
      simp [e']
    · rw [List.getElem?_eq_none (by simp [usedC]; omega), List.getElem?_eq_none (by simp [usedC]; omega)]
theorem mkB (N : Nat) (hN : N = 63 ∨ N = 64) (w : World) : (Instr.makeSlice 36 (.int .i64 (N : Int)) (.int .i64 (N : Int))).run Tryd.prog w = .ok (.slice (some ⟨w.heap.size, 0, none⟩) N N) (w.alloc (.cells (usedC N []).toArray 4)) := by
  rcases hN with rfl | rfl
  · kernel_rfl
  · kernel_rfl

def RelO (T : ByteArray) (cs : List Int) (w : World) (v i : Value) (wr : World) : Prop :=
  ∃ (k : Nat) (sel rest : List Nat), k ≤ T.size ∧ sel.length = k ∧ Inv T.size cs sel rest ∧ i = .int .i64 (k : Int) ∧ wr.heap[w.heap.size]? = some (.cells (usedC T.size sel).toArray 4 (0, 0)) ∧ wr.ownsRow (w.heap.size + 1) 5 1 v k (Lib.byteCells (tailsOf T sel)) ∧ Below w.heap.size w wr
def Beside (T : ByteArray) (w : World) (sel : List Nat) (k : Nat) (v : Value) (W : World) : Prop :=
  W.heap[w.heap.size]? = some (.cells (usedC T.size sel).toArray 4 (0, 0)) ∧ W.ownsRow (w.heap.size + 1) 5 1 v k (Lib.byteCells (tailsOf T sel)) ∧ Below w.heap.size w W
theorem Beside.drew {T : ByteArray} {w : World} {sel : List Nat} {k : Nat} {v : Value} {W : World} (h : Beside T w sel k v W) : Beside T w sel k v W.drew :=
  ⟨h.1, h.2.1, ⟨h.2.2.os, h.2.2.tape, h.2.2.output, h.2.2.size, h.2.2.block⟩⟩
def RelI (T : ByteArray) (cs : List Int) (w : World) (sel : List Nat) (n : Nat) (v : Value) (b i : Value) (W : World) : Prop :=
  ∃ (k : Nat) (o : Option Nat), k ≤ T.size ∧ i = .int .i64 (k : Int) ∧ b = .int .i64 (bestV o) ∧ Best cs sel k o ∧ Beside T w sel n v W

def RetSo (T : ByteArray) (cs : List Int) (w : World) (e : Ending) (w' : World) : Prop :=
  ∃ s, IsSel T.size cs s ∧ e = .returned (.tuple #[.string ⟨(headsOf T s).toArray⟩, .string ⟨(tailsOf T s).toArray⟩]) ∧ Below w.heap.size w w'

theorem app_toList2 (a b : ByteArray) : (a ++ b).data.toList = a.data.toList ++ b.data.toList := by simp [ByteArray.data_append]
def RelL (T : ByteArray) (sel : List Nat) (w : World) (v h i : Value) (W : World) : Prop :=
  ∃ (k : Nat) (hS : ByteArray), k ≤ T.size ∧ i = .int .i64 (k : Int) ∧ h = .string hS ∧ hS.data.toList = ((tailsOf T sel).take k).filter nond ∧ hS.size ≤ k ∧ W.ownsRow (w.heap.size + 1) 5 1 v T.size (Lib.byteCells (tailsOf T sel)) ∧ Below w.heap.size w W
theorem head_step {l : List UInt8} {k : Nat} {c : UInt8} {hS : ByteArray} (hc : l[k]? = some c) (hh : hS.data.toList = (l.take k).filter nond) :
    ((c.toNat < 48 ∨ 57 < c.toNat) → (hS ++ ⟨#[c]⟩).data.toList = (l.take (k + 1)).filter nond) ∧ (¬ (c.toNat < 48 ∨ 57 < c.toNat) → hS.data.toList = (l.take (k + 1)).filter nond) := by
  obtain ⟨hl, rfl⟩ := List.getElem?_eq_some_iff.1 hc
  rw [List.take_succ_eq_append_getElem hl, List.filter_append, ← hh]
  refine ⟨fun h => ?_, fun h => ?_⟩
  · rw [app_toList2, List.filter_cons_of_pos (by simpa [nond] using h)]
    rfl
  · rw [List.filter_cons_of_neg (by simpa [nond] using h), List.filter_nil, List.append_nil]
theorem byte_cell2 (W : World) (n : Nat) (c : Value) (hn : W.heap.size = n) : ∀ j u, [c][j]? = some u → (W.alloc (.cells #[c] 5)).cell? ((⟨n, 0, none⟩ : Addr).add j) = some u := by
  subst hn
  exact nm.byte_cell W c
theorem own_set {W : World} {B k : Nat} {t : TypeId} {v : Value} {xs : List Value} (h : W.ownsRow (B + 1) t 1 v k xs) {j : Nat} {u : Value} : (W.setCell ⟨B, j, none⟩ u).ownsRow (B + 1) t 1 v k xs := by
  refine ⟨h.1, ?_⟩
  rcases h.2 with h0 | ⟨g, cap, cur, e, hB, hh, hr⟩
  · exact Or.inl h0
  · refine Or.inr ⟨g, cap, cur, e, hB, ?_, hr⟩
    rw [Below.heap_setCell W ⟨B, j, none⟩ u g (by simp; omega)]
    exact hh

set_option maxRecDepth 100000 in
set_option maxHeartbeats 2000000 in
theorem sorted_any (T : ByteArray) (hT : T.size = 63 ∨ T.size = 64) (cs : List Int) (g cap : Nat) (w : World) (hg : g < w.heap.size) (hc : ∀ j, j < 64 → w.cell? ⟨g, j, none⟩ = some (.int .i32 (cs.getD j 0))) :
    Calls Tryd.prog 6 #[.string T, .slice (some ⟨g, 0, none⟩) 64 cap] w (RetSo T cs w) := by
  obtain ⟨i0, hi, hz0, hz1, hz2⟩ := info_parts bld.info5
  have hmk := mkB T.size hT
  have hN : T.size ≤ 64 := by omega
  have hN1 : 0 < T.size := by omega
  have HC := Lib.hid hc
  clear hT hc
  go_enter Tryd.func6, Tryd.ntmps6
  go_wp2
  clear hmk
  go_loopw [7, 17] (fun v i wr => RelO T cs w v i wr) (fun _ i _ => T.size - (intOf i).toNat)
  case atStart =>
    exact ⟨0, [], _, Nat.zero_le _, rfl, Inv.start _ _, rfl, heap_alloc_new w _, ⟨rfl, Or.inl ⟨rfl, rfl⟩⟩, (Below.refl _ _).alloc (Nat.le_refl _) _⟩
  case round =>
    obtain ⟨k, sel, rest, hk, hsl, hinv, rfl, hus, hown, hbw⟩ := hrel
    by_cases hlt : k < T.size
    · have HI := Lib.hid hinv
      have HSL := Lib.hid hsl
      have HBS : Hid (Beside T w sel k u7 wr) := ⟨hus, hown, hbw⟩
      clear hinv hus hown hsl hbw
      go_wp2
      go_loopw [8, 21] (fun b i W => RelI T cs w sel k u7 b i W) (fun _ i _ => T.size - (intOf i).toNat)
      case atStart => exact ⟨0, none, Nat.zero_le _, rfl, rfl, fun j hj => absurd hj (Nat.not_lt_zero _), HBS.out⟩
      case round =>
        clear HBS
        obtain ⟨i, o, hi64, rfl, rfl, hbest, hbs⟩ := hrel
        have HBS := Lib.hid hbs
        have HU := Lib.hid hbs.1
        have hms : w.heap.size < wr.heap.size := (Array.getElem?_eq_some_iff.1 hbs.1).1
        clear hbs
        by_cases hlt2 : i < T.size
        · have cU : wr.cell? ⟨w.heap.size, i, none⟩ = some (.bool (decide (i ∈ sel))) := by
            rw [Lib.cell_of_heap HU.out, List.getElem?_toArray, used_at hlt2]
          have cI := (HBS.out.2.2.cell (p := ⟨g, i, none⟩) hg).trans (HC.out i (by omega))
          have HB := Lib.hid hbest
          clear hbest
          by_cases hin : i ∈ sel
          · rw [decide_eq_true hin] at cU
            have HIN := Lib.hid hin
            obtain ⟨bv, hbv⟩ : ∃ x, x = bestV o := ⟨_, rfl⟩
            rw [← hbv]
            have HBV := Lib.hid hbv
            clear hin cI HC hbv
            go_wp2
            go_region
            go_wp2
            go_roundw
            case rel => exact ⟨i + 1, o, by omega, by go_num, by rw [HBV.out], HB.out.skip HIN.out, HBS.out.drew⟩
            case measure => simp [intOf]; omega
          · rw [decide_eq_false hin] at cU
            have HIN := Lib.hid hin
            clear hin
            rcases o with _ | b
            · clear cI HC
              simp only [bestV]
              go_wp2
              go_region
              go_wp2
              go_roundw
              case rel => exact ⟨i + 1, some i, by omega, by go_num, rfl, HB.out.first HIN.out, HBS.out.drew⟩
              case measure => simp [intOf]; omega
            · simp only [bestV]
              have hbi := HB.out.1
              have cB := (HBS.out.2.2.cell (p := ⟨g, b, none⟩) hg).trans (HC.out b (by omega))
              have hb64 : b < 64 := by omega
              have hi64' : i < 64 := by omega
              obtain ⟨x, hx⟩ : ∃ x, x = cs.getD b 0 := ⟨_, rfl⟩
              obtain ⟨y, hy⟩ : ∃ y, y = cs.getD i 0 := ⟨_, rfl⟩
              rw [← hx] at cB
              rw [← hy] at cI
              have HM := Lib.hid fun h : x < y => HB.out.more HIN.out (by rw [← hx, ← hy]; exact h)
              have HK := Lib.hid fun h : ¬ x < y => HB.out.keep (by rw [← hx, ← hy]; exact h)
              clear hx hy HC HB HIN HI HSL
              have hnb : ¬ ((b : Int) < 0) := by omega
              have hnb2 : decide ((b : Int) < 0) = false := decide_eq_false hnb
              go_wp2
              go_region
              by_cases hcc : x < y
              · rw [decide_eq_true hcc]
                go_wp2
                go_roundw
                case rel => exact ⟨i + 1, some i, by omega, by go_num, rfl, HM.out hcc, HBS.out.drew⟩
                case measure => simp [intOf]; omega
              · rw [decide_eq_false hcc]
                go_wp2
                go_roundw
                case rel => exact ⟨i + 1, some b, by omega, by go_num, rfl, HK.out (by omega), HBS.out.drew⟩
                case measure => simp [intOf]; omega
        · obtain rfl : i = T.size := by omega
          obtain ⟨b, rfl, hbN, hbs, hinv2⟩ := HI.out.next (by rw [HSL.out]; exact hlt) hbest
          simp only [bestV]
          have cU : wr.cell? ⟨w.heap.size, b, none⟩ = some (.bool (decide (b ∈ sel))) := by
            rw [Lib.cell_of_heap HU.out, List.getElem?_toArray, used_at hbN]
          have fU : wr.frozen? ⟨w.heap.size, b, none⟩ = false := Lib.frozen_of_heap HU.out b
          have hus2 : (wr.setCell ⟨w.heap.size, b, none⟩ (.bool true)).heap[w.heap.size]? = some (.cells (usedC T.size (sel ++ [b])).toArray 4 (0, 0)) := by
            rw [set_heap HU.out b (.bool true), used_set]
          have hown2 : (wr.setCell ⟨w.heap.size, b, none⟩ (.bool true)).ownsRow (w.heap.size + 1) 5 1 u7 k (Lib.byteCells (tailsOf T sel)) := own_set HBS.out.2.1
          have HI2 := Lib.hid hinv2
          have HU2 := Lib.hid hus2
          have HO2 := Lib.hid hown2
          clear hbest hbs hinv2 hus2 hown2 HC HI HU
          have HG := Lib.hid (nm.getD_eq T b hbN)
          go_wp2_with (at_builtin; refine wpList_append_own _ rfl (.tmp 49) (.tmp 53) 37 rfl (w.heap.size + 1) 5 i0 (.int .u8 0) 1 1 Tryd.underlying37 hi hz0 hz1 hz2 rfl (by decide) _ k (Lib.byteCells (tailsOf T sel)) rfl (HO2.out.alloc _) ⟨wr.heap.size, 0, none⟩ 1 1 [.int .u8 ((T[b]'hbN).toNat : Int)] rfl rfl (byte_cell2 _ _ _ (by simp)) (by intro u hu; simp at hu; subst hu; rfl) (by unfold maxLen; omega) (by omega) (by simp; omega) ?_; intro v2 w2 hown2 hgrow2 _)
          have hbw1 : Below w.heap.size w (wr.setCell ⟨w.heap.size, b, none⟩ (.bool true)) := HBS.out.2.2.grown (set_grown _ _ _ _) (by omega) (fun y e => by injection e with e; omega)
          have hbw2 : Below w.heap.size w w2 := (hbw1.alloc (by simp; omega) _).grown hgrow2 (by simp; omega) fun j e => by have := (HO2.out.lt j e).1; omega
          have hus2 : w2.heap[w.heap.size]? = some (.cells (usedC T.size (sel ++ [b])).toArray 4 (0, 0)) := by
            rw [hgrow2.block _ (by simp; omega) (fun e => by have := (HO2.out.lt _ e.symm).1; omega), Below.heap_alloc _ _ _ (by simp; omega)]
            exact HU2.out
          go_roundw
          case rel =>
            refine ⟨k + 1, sel ++ [b], _, hlt, by rw [List.length_append, HSL.out]; rfl, HI2.out, by go_num, hus2, ?_, hbw2⟩
            have e : tailsOf T (sel ++ [b]) = tailsOf T sel ++ [T.data.toList.getD b 0] := by simp [tailsOf]
            rw [e, ← HG.out, Lib.byteCells_append]
            exact hown2
          case measure => simp [intOf]; omega
    · obtain rfl : k = T.size := by omega
      have hsel := hinv.sel_of hsl
      have htl := tails_len hsel
      obtain ⟨g2, cap2, rfl⟩ : ∃ g2 cap2, u7 = .slice (some ⟨g2, 0, none⟩) T.size cap2 := by
        rcases hown.2 with ⟨_, h0⟩ | ⟨g2, cap2, cur, e, _⟩
        · omega
        · exact ⟨g2, cap2, e⟩
      have HS := Lib.hid hsel
      have HTL := Lib.hid htl
      have HO := Lib.hid hown
      clear hinv hsl hus hown hsel htl HC
      go_wp2
      go_loopw [4, 58] (fun h i W => RelL T sel w (.slice (some ⟨g2, 0, none⟩) T.size cap2) h i W) (fun _ i _ => T.size - (intOf i).toNat)
      case atStart => exact ⟨0, ⟨#[]⟩, Nat.zero_le _, rfl, rfl, rfl, Nat.le_refl _, HO.out, hbw⟩
      case round =>
        clear HO hbw
        obtain ⟨k, hS, hk, rfl, rfl, hh, hhl, hown, hbw⟩ := hrel
        by_cases hlt : k < T.size
        · obtain ⟨c, hc⟩ : ∃ c, (tailsOf T sel)[k]? = some c := ⟨_, List.getElem?_eq_getElem (by rw [HTL.out]; exact hlt)⟩
          have cO : wr.cell? ⟨g2, k, none⟩ = some (.int .u8 (c.toNat : Int)) := by
            have := hown.cells (g := g2) rfl k (.int .u8 (c.toNat : Int)) (by simp [Lib.byteCells, hc])
            have hadd : (⟨g2, 0, none⟩ : Addr).add k = ⟨g2, k, none⟩ := by unfold Addr.add; split <;> simp_all
            rwa [hadd] at this
          have hgl := (hown.lt g2 rfl).2
          have hcv : (convert 37 9 (.slice (some ⟨wr.heap.size, 0, none⟩) 1 1)).run Tryd.prog (wr.alloc (.cells #[.int .u8 (c.toNat : Int)] 5)) = .ok (.string ⟨#[c]⟩) (wr.alloc (.cells #[.int .u8 (c.toNat : Int)] 5)) := nm.conv (out := [c]) (nm.own_one wr c) (by simp)
          have hA : ¬ 9223372036854775807 < hS.size + (ByteArray.mk #[c]).size := by
            show ¬ 9223372036854775807 < hS.size + 1
            omega
          have hA' : ¬ 9223372036854775807 < hS.size + 1 := by omega
          have hsz := hbw.size
          have HO := Lib.hid hown
          have HH := Lib.hid (head_step hc hh)
          have hc8 := c.toNat_lt
          clear hown hc hh HTL HS
          by_cases hnd : c.toNat < 48 ∨ 57 < c.toNat
          · have HY := Lib.hid (HH.out.1 hnd)
            clear HH
            rcases hnd with hnd | hnd
            · go_wp2
              go_roundw
              case rel => exact ⟨k + 1, _, hlt, by go_num, rfl, HY.out, by rw [← len_eq, app_toList2, List.length_append, len_eq]; exact Nat.succ_le_succ hhl, HO.out.alloc _, hbw.alloc hsz _⟩
              case measure => simp [intOf]; omega
            · go_wp2
              go_roundw
              case rel => exact ⟨k + 1, _, hlt, by go_num, rfl, HY.out, by rw [← len_eq, app_toList2, List.length_append, len_eq]; exact Nat.succ_le_succ hhl, HO.out.alloc _, hbw.alloc hsz _⟩
              case measure => simp [intOf]; omega
          · have HY := Lib.hid (HH.out.2 hnd)
            have h48 : ¬ c.toNat < 48 := by omega
            have h57 : ¬ 57 < c.toNat := by omega
            clear HH hnd
            go_wp2
            go_roundw
            case rel => exact ⟨k + 1, _, hlt, by go_num, rfl, HY.out, by omega, HO.out, hbw⟩
            case measure => simp [intOf]; omega
        · obtain rfl : k = T.size := by omega
          rw [List.take_of_length_le (by rw [HTL.out]; exact Nat.le_refl _)] at hh
          have hown' : wr.ownsRow (w.heap.size + 1) 5 1 (.slice (some ⟨g2, 0, none⟩) T.size cap2) (tailsOf T sel).length (Lib.byteCells (tailsOf T sel)) := by rw [HTL.out]; exact hown
          have hownd : wr.drew.ownsRow (w.heap.size + 1) 5 1 (.slice (some ⟨g2, 0, none⟩) T.size cap2) (tailsOf T sel).length (Lib.byteCells (tailsOf T sel)) := hown'
          have hcv := nm.conv hownd (by intro e; have := HTL.out; rw [e] at this; simp at this; omega)
          have e1 : hS = ⟨(headsOf T sel).toArray⟩ := bytes_inj hh
          subst e1
          clear hown hown' hownd hh
          have hbd : Below w.heap.size w wr.drew := ⟨hbw.os, hbw.tape, hbw.output, hbw.size, hbw.block⟩
          go_wp2
          go_region
          go_wp2
          refine bodyPost_ret (v := .tuple #[.string ⟨(headsOf T sel).toArray⟩, .string ⟨(tailsOf T sel).toArray⟩]) (by simp [results, Tryd.results6, go_sem]) (by rfl) ?_
          exact ⟨sel, HS.out, rfl, hbd⟩
end Go.Proofs.YtpmihkhmijndaaaDoor.srt
