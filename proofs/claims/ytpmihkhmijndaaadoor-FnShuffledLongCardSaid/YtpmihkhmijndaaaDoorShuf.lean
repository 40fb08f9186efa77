/- What ShuffleByCharFreq computes: the signs, the most frequent first; and those of them that a name can begin with. -/
import Derived.Test.YtpmihkhmijndaaaDoorSortG
import Derived.RegionTactic
import Derived.BigRegion
import Derived.Test.YtpmihkhmijndaaaDoorShufPlain
import Derived.Test.YtpmihkhmijndaaaDoorCntScanned
import Derived.WalkLawsBesides
import Derived.Laws.Strings2
import Derived.Lib.FrozenHead
namespace Go.Proofs.YtpmihkhmijndaaaDoor.srt
open Go.ChangeShapes Go.WideShapes Go.ChangeAt Go.RowKit
open cnt (arr arr_get)

theorem je_set {blk : Nat} {W : World} {d : Array Ent} (h : JE blk W d) (k : Nat) (hk : k < d.size) (x : Ent) :
    JE blk (((W.setCell ⟨blk, k * 3, none⟩ (.string x.ch)).setCell ⟨blk, k * 3 + 1, none⟩ (.int .i32 x.cnt)).setCell ⟨blk, k * 3 + 2, none⟩ (.int .u8 (x.idx : Int))) (d.setIfInBounds k x) := by
  have h3 := set_heap (set_heap (set_heap h (k * 3) (.string x.ch)) (k * 3 + 1) (.int .i32 x.cnt)) (k * 3 + 2) (.int .u8 (x.idx : Int))
  have e : (((flatL d.toList).set (k * 3) (.string x.ch)).set (k * 3 + 1) (.int .i32 x.cnt)).set (k * 3 + 2) (.int .u8 (x.idx : Int)) = flatL (d.setIfInBounds k x).toList := by
    have hl : (flatL d.toList).length = d.size * 3 := flat_len d.toList
    have hl2 : (flatL (d.setIfInBounds k x).toList).length = d.size * 3 := by
      rw [flat_len]
      show (d.setIfInBounds k x).size * 3 = _
      rw [Array.size_setIfInBounds]
    refine flat_ext d.size (by simpa using hl) hl2 fun j c hj hc => ?_
    rw [flat_at _ j c hc]
    by_cases e : j = k
    · subst e
      have hg : (d.setIfInBounds j x).toList[j]? = some x := by simp [hj]
      rw [hg]
      have hc3 : c = 0 ∨ c = 1 ∨ c = 2 := by omega
      rcases hc3 with rfl | rfl | rfl
      · rw [List.getElem?_set_ne (by omega), List.getElem?_set_ne (by omega), List.getElem?_set, if_pos (by omega), if_pos (by omega)]
        rfl
      · rw [List.getElem?_set_ne (by omega), List.getElem?_set_self (by simp only [List.length_set]; omega)]
        rfl
      · rw [List.getElem?_set_self (by simp only [List.length_set]; omega)]
        rfl
    · have hg : (d.setIfInBounds k x).toList[j]? = d.toList[j]? := by
        simp only [Array.toList_setIfInBounds]
        rw [List.getElem?_set_ne (fun h => e h.symm)]
      rw [hg, List.getElem?_set_ne (by omega), List.getElem?_set_ne (by omega), List.getElem?_set_ne (by omega), flat_at _ j c hc]
  rw [e] at h3
  exact h3
theorem dk_succ (T : ByteArray) (cs : List Int) (k : Nat) (hk : k < 64) : (dk T cs k).setIfInBounds k (real T cs k) = dk T cs (k + 1) := by
  apply Array.ext'
  simp only [Array.toList_setIfInBounds, dk]
  refine List.ext_getElem? fun j => ?_
  rw [List.getElem?_set]
  by_cases e : k = j
  · subst e
    simp [hk]
  · rw [if_neg e]
    simp only [List.getElem?_map]
    cases hj : (List.range 64)[j]? with
    | none => rfl
    | some y =>
      have : y = j := by
        have := List.getElem?_eq_some_iff.1 hj
        obtain ⟨h1, h2⟩ := this
        simpa using h2.symm
      subst this
      simp only [Option.map_some]
      congr 1
      by_cases h : y < k
      · rw [if_pos h, if_pos (by omega)]
      · rw [if_neg h, if_neg (by omega)]

theorem mk64 (w : World) : (Instr.makeSlice 51 (.int .i64 64) (.int .i64 64)).run Tryd.prog w = .ok (.slice (some ⟨w.heap.size, 0, none⟩) 64 64) (w.alloc (.cells (flatL (dk ⟨#[]⟩ [] 0).toList).toArray 53)) := by kernel_rfl
theorem dk_zero (T : ByteArray) (cs : List Int) : dk T cs 0 = dk ⟨#[]⟩ [] 0 := by simp [dk]

/-- What lies beside the row. -/
def Sides (B : Nat) (H T : ByteArray) (cs : List Int) (W : World) : Prop :=
  W.heap[B]? = some (.cells #[.string H, .string T] 43 (0, 0)) ∧ W.heap[B + 1]? = some (.cells (arr cs) 47 (0, 0)) ∧ W.heap[B + 1 + 1]? = some (.cells #[.string ⟨#[]⟩, .string ⟨#[]⟩] 43 (0, 0))
theorem Sides.grown {B blk : Nat} {H T : ByteArray} {cs : List Int} {W W' : World} (h : Sides B H T cs W) (hg : W.grownBy W' (some blk)) (hb : B + 2 < blk) : Sides B H T cs W' := by
  obtain ⟨h0, h1, h2⟩ := h
  refine ⟨?_, ?_, ?_⟩
  · rw [hg.block B (Array.getElem?_eq_some_iff.1 h0).1 (by simp; omega)]; exact h0
  · rw [hg.block (B + 1) (Array.getElem?_eq_some_iff.1 h1).1 (by simp; omega)]; exact h1
  · rw [hg.block (B + 1 + 1) (Array.getElem?_eq_some_iff.1 h2).1 (by simp; omega)]; exact h2

theorem heap_new4 (w : World) (a b c d : Obj) : (((((w.alloc a).alloc b).alloc c).alloc d).heap[w.heap.size + 1 + 1 + 1]?) = some d := by
  have := heap_alloc_new (((w.alloc a).alloc b).alloc c) d
  simpa using this
theorem Sides.new (w : World) (H T : ByteArray) (cs : List Int) (o : Obj) : Sides w.heap.size H T cs ((((w.alloc (.cells #[.string H, .string T] 43)).alloc (.cells (arr cs) 47)).alloc (.cells #[.string ⟨#[]⟩, .string ⟨#[]⟩] 43)).alloc o) := by
  refine ⟨?_, ?_, ?_⟩
  · rw [Below.heap_alloc _ _ _ (by simp; omega), Below.heap_alloc _ _ _ (by simp; omega), Below.heap_alloc _ _ _ (by simp)]
    exact heap_alloc_new w _
  · rw [Below.heap_alloc _ _ _ (by simp), Below.heap_alloc _ _ _ (by simp)]
    have := heap_alloc_new (w.alloc (.cells #[.string H, .string T] 43)) (.cells (arr cs) 47)
    simpa using this
  · rw [Below.heap_alloc _ _ _ (by simp)]
    have := heap_alloc_new ((w.alloc (.cells #[.string H, .string T] 43)).alloc (.cells (arr cs) 47)) (.cells #[.string ⟨#[]⟩, .string ⟨#[]⟩] 43)
    simpa using this
theorem JE_le {B : Nat} {H T : ByteArray} {cs : List Int} {W : World} (h : Sides B H T cs W) : B ≤ W.heap.size := by
  have := (Array.getElem?_eq_some_iff.1 h.1).1
  omega
def Rel1 (w : World) (H T : ByteArray) (cs : List Int) (i : Value) (wr : World) : Prop :=
  ∃ k : Nat, k ≤ T.size ∧ i = .int .i64 (k : Int) ∧ JE (w.heap.size + 1 + 1 + 1) wr (dk T cs k) ∧ Sides w.heap.size H T cs wr ∧ Below w.heap.size w wr

def Rel2 (w : World) (H T : ByteArray) (cs : List Int) (d : Array Ent) (mb : Nat) (i : Value) (wr : World) : Prop :=
  ∃ (k : Nat) (hS tS : ByteArray), k ≤ 64 ∧ i = .int .i64 (k : Int) ∧ JE (w.heap.size + 1 + 1 + 1) wr d ∧ Sides w.heap.size H T cs wr ∧ wr.heap[mb]? = some (.cells #[.string hS, .string tS] 43 (0, 0)) ∧ tS.data.toList = bytesOf (d.toList.take k) ∧ hS.data.toList = (bytesOf (d.toList.take k)).filter nond ∧ tS.size ≤ k ∧ hS.size ≤ k ∧ Below w.heap.size w wr
theorem ch_one {T : ByteArray} {cs : List Int} {l : List Ent} (h : l.Perm (dk T cs T.size).toList) : ∀ x ∈ l, x.ch.size = 1 ∨ x.ch.size = 0 := by
  intro x hx
  rcases dk_mem (h.subset hx) with ⟨h1, _⟩ | ⟨_, h1⟩
  · exact Or.inl (by simpa [isReal] using h1)
  · exact Or.inr (by rw [← len_eq, h1]; rfl)

theorem grown_alloc (w : World) (o : Obj) (row : Option Nat) : w.grownBy (w.alloc o) row := ⟨rfl, rfl, rfl, by simp, fun i hi _ => Below.heap_alloc w o i hi⟩
theorem nond_yes (c : ByteArray) (h : c.size = 1 ∨ c.size = 0) (ht : Op.bytesLess c.toList [48] = true ∨ ((!Op.bytesLess c.toList [57]) = true ∧ (!c.toList == [57]) = true)) : c.data.toList.filter nond = c.data.toList := by
  rw [ByteArray.toList_eq] at ht
  rw [← len_eq] at h
  rcases hc : c.data.toList with _ | ⟨b, _ | ⟨b', l⟩⟩
  · rfl
  · rw [hc] at ht
    have : nond b = true := by
      simp only [Op.bytesLess, Bool.and_false, Bool.or_false, decide_eq_true_eq, Bool.not_eq_true', decide_eq_false_iff_not, beq_eq_false_iff_ne, ne_eq, List.cons.injEq, and_true, UInt8.lt_iff_toNat_lt, ← UInt8.toNat_inj] at ht
      simp only [nond, Bool.or_eq_true, decide_eq_true_eq]
      have e1 : (48 : UInt8).toNat = 48 := rfl
      have e2 : (57 : UInt8).toNat = 57 := rfl
      omega
    rw [List.filter_cons_of_pos this]
    rfl
  · rw [hc] at h; simp at h
theorem nond_no (c : ByteArray) (h : c.size = 1 ∨ c.size = 0) (h1 : ¬ Op.bytesLess c.toList [48] = true) (h2 : (!Op.bytesLess c.toList [57]) = false ∨ (!c.toList == [57]) = false) : c.data.toList.filter nond = [] := by
  rw [ByteArray.toList_eq] at h1 h2
  rw [← len_eq] at h
  rcases hc : c.data.toList with _ | ⟨b, _ | ⟨b', l⟩⟩
  · rfl
  · rw [hc] at h1 h2
    have : nond b = false := by
      simp only [Op.bytesLess, Bool.and_false, Bool.or_false, decide_eq_true_eq, List.cons.injEq, and_true, UInt8.lt_iff_toNat_lt, ← UInt8.toNat_inj, Bool.not_eq_false', beq_iff_eq] at h1 h2
      simp only [nond, Bool.or_eq_false_iff, decide_eq_false_iff_not]
      have e1 : (48 : UInt8).toNat = 48 := rfl
      have e2 : (57 : UInt8).toNat = 57 := rfl
      omega
    rw [List.filter_cons_of_neg (by simp [this])]
    rfl
  · rw [hc] at h; simp at h
theorem app_toList (a b : ByteArray) : (a ++ b).data.toList = a.data.toList ++ b.data.toList := by simp [ByteArray.data_append]
theorem rel2_step {w : World} {H T : ByteArray} {cs : List Int} {d : Array Ent} {mb k : Nat} {hS tS hS' : ByteArray} {wr W : World} {x : Ent} (hj : JE (w.heap.size + 1 + 1 + 1) wr d) (hsd : Sides w.heap.size H T cs wr) (hbw : Below w.heap.size w wr)
    (ht : tS.data.toList = bytesOf (d.toList.take k)) (hh : hS.data.toList = (bytesOf (d.toList.take k)).filter nond) (htl : tS.size ≤ k) (hhl : hS.size ≤ k) (hk : k < 64) (hx : d.toList[k]? = some x) (hx1 : x.ch.size ≤ 1)
    (hg : wr.grownBy W (some mb)) (hB : w.heap.size + 1 + 1 + 1 < mb) (hm : W.heap[mb]? = some (.cells #[.string hS', .string (tS ++ x.ch)] 43 (0, 0))) (hs' : hS'.data.toList = hS.data.toList ++ x.ch.data.toList.filter nond) :
    Rel2 w H T cs d mb (.int .i64 ((k : Int) + 1)) W := by
  have hlt := hj.lt_size
  have etk : bytesOf (d.toList.take (k + 1)) = bytesOf (d.toList.take k) ++ x.ch.data.toList := by
    obtain ⟨hl, rfl⟩ := List.getElem?_eq_some_iff.1 hx
    rw [List.take_succ_eq_append_getElem hl]
    simp [bytesOf]
  refine ⟨k + 1, hS', tS ++ x.ch, hk, by simp, ?_, hsd.grown hg (by omega), hm, ?_, ?_, ?_, ?_, hbw.grown hg (by omega) (fun y e => by injection e with e; omega)⟩
  · show W.heap[_]? = _
    rw [hg.block _ hlt (by simp; omega)]
    exact hj
  · rw [etk, app_toList, ht]
  · rw [etk, List.filter_append, hs', hh]
  · rw [← len_eq, app_toList, List.length_append, len_eq, len_eq]; omega
  · rw [← len_eq, hs', List.length_append, len_eq]
    have := List.length_filter_le nond x.ch.data.toList
    rw [len_eq] at this
    omega
theorem mb_two {W : World} {mb : Nat} {a b a' b' : ByteArray} {t : TypeId} (h : W.heap[mb]? = some (.cells #[.string a, .string b] t (0, 0))) (o : Obj) : (((W.setCell ⟨mb, 0, none⟩ (.string a')).setCell ⟨mb, 1, none⟩ (.string b')).alloc o).heap[mb]? = some (.cells #[.string a', .string b'] t (0, 0)) := by
  have h1 := set_heap (set_heap h 0 (.string a')) 1 (.string b')
  rw [Below.heap_alloc _ _ _ (Array.getElem?_eq_some_iff.1 h1).1]
  exact h1
theorem mb_one {W : World} {mb : Nat} {a b b' : ByteArray} {t : TypeId} (h : W.heap[mb]? = some (.cells #[.string a, .string b] t (0, 0))) (o : Obj) : ((W.setCell ⟨mb, 1, none⟩ (.string b')).alloc o).heap[mb]? = some (.cells #[.string a, .string b'] t (0, 0)) := by
  have h1 := set_heap h 1 (.string b')
  rw [Below.heap_alloc _ _ _ (Array.getElem?_eq_some_iff.1 h1).1]
  exact h1

def RetSh (T : ByteArray) (cs : List Int) (w : World) (e : Ending) (w' : World) : Prop :=
  ∃ s, IsSel T.size cs s ∧ e = .returned (.agg #[.string ⟨(headsOf T s).toArray⟩, .string ⟨(tailsOf T s).toArray⟩]) ∧ Below w.heap.size w w'

theorem slice_one (s : ByteArray) (j : Nat) (h : j < s.size) (w : World) : (Instr.slice 9 (.string s) (some (.int .i64 (j : Int))) (some (.int .i64 ((j : Int) + 1))) none).run Tryd.prog w = .ok (.string (s.extract j (j + 1))) w := by
  have := run_slice_string (P := Tryd.prog) w 9 s .i64 .i64 (j : Int) ((j : Int) + 1) Tryd.underlying9 (by omega) (by omega) (by omega)
  have e : ((j : Int) + 1).toNat = j + 1 := by omega
  rw [e] at this
  exact this

theorem cell_cs {B : Nat} {H T : ByteArray} {cs : List Int} {W : World} (h : Sides B H T cs W) (hl : cs.length = 64) (k : Nat) (hk : k < 64) : W.cell? ⟨B + 1, k, none⟩ = some (.int .i32 (cs.getD k 0)) := by
  have hk' : k < cs.length := by omega
  rw [Lib.cell_of_heap h.2.1]
  simp [arr, hk']
theorem cell_T {B : Nat} {H T : ByteArray} {cs : List Int} {W : World} (h : Sides B H T cs W) : W.cell? ⟨B, 1, none⟩ = some (.string T) := by
  rw [Lib.cell_of_heap h.1]
  rfl

set_option maxRecDepth 100000 in
set_option maxHeartbeats 2000000 in
theorem shuffle_any (H T : ByteArray) (hT : T.size ≤ 64) (cs : List Int) (hl : cs.length = 64) (w : World) :
    Calls Tryd.prog 17 #[.agg #[.string H, .string T], .agg (arr cs)] w (RetSh T cs w) := by
  have hmk := mk64
  have HL := Lib.hid hl
  clear hl
  go_enter Tryd.func17, Tryd.ntmps17
  go_wp2
  clear hmk
  go_loopw [6] (fun i wr => Rel1 w H T cs i wr) (fun i _ => T.size - (intOf i).toNat)
  case atStart =>
    refine ⟨0, Nat.zero_le _, rfl, ?_, ⟨?_, ?_, ?_⟩, (((((Below.refl _ _).alloc (Nat.le_refl _) _).alloc (by simp) _).alloc (by simp; omega) _).alloc (by simp; omega) _)⟩
    · rw [dk_zero]
      exact heap_new4 w _ _ _ _
    · exact (Sides.new w H T cs _).1
    · exact (Sides.new w H T cs _).2.1
    · exact (Sides.new w H T cs _).2.2
  case round =>
    obtain ⟨k, hk, rfl, hj, hsd, hbw⟩ := hrel
    by_cases hlt : k < T.size
    · have hk64 : k < 64 := by omega
      have cT := cell_T hsd
      have cC := cell_cs hsd HL.out k hk64
      obtain ⟨c0, c1, c2⟩ := hj.cell (i := k) (by rw [dk_size]; omega)
      have f0 := hj.frozen (k * 3)
      have f1 := hj.frozen (k * 3 + 1)
      have f2 := hj.frozen (k * 3 + 1 + 1)
      have HJ := Lib.hid (je_set hj k (by rw [dk_size]; omega) (real T cs k))
      have hsl := slice_one T k hlt
      have HSD := Lib.hid hsd
      clear hj hsd
      generalize (dk T cs k)[k]! = x at *
      obtain ⟨ck, hck⟩ : ∃ c, c = cs.getD k 0 := ⟨_, rfl⟩
      rw [← hck] at cC
      have HC := Lib.hid hck
      clear hck
      go_wp2
      go_region
      have hg : wr.grownBy (((wr.setCell ⟨w.heap.size + 1 + 1 + 1, k * 3, none⟩ (.string (T.extract k (k + 1)))).setCell ⟨w.heap.size + 1 + 1 + 1, k * 3 + 1, none⟩ (.int .i32 ck)).setCell ⟨w.heap.size + 1 + 1 + 1, k * 3 + 2, none⟩ (.int .u8 (k : Int))).drew (some (w.heap.size + 1 + 1 + 1)) := grown_drew (grown_trans (grown_trans (set_grown _ _ _ _) (set_grown _ _ _ _)) (set_grown _ _ _ _))
      have hJ : JE (w.heap.size + 1 + 1 + 1) (((wr.setCell ⟨w.heap.size + 1 + 1 + 1, k * 3, none⟩ (.string (T.extract k (k + 1)))).setCell ⟨w.heap.size + 1 + 1 + 1, k * 3 + 1, none⟩ (.int .i32 ck)).setCell ⟨w.heap.size + 1 + 1 + 1, k * 3 + 2, none⟩ (.int .u8 (k : Int))).drew (dk T cs (k + 1)) := by
        have := HJ.out
        rw [dk_succ T cs k hk64] at this
        rw [HC.out]
        exact this.drew
      generalize (((wr.setCell ⟨w.heap.size + 1 + 1 + 1, k * 3, none⟩ (.string (T.extract k (k + 1)))).setCell ⟨w.heap.size + 1 + 1 + 1, k * 3 + 1, none⟩ (.int .i32 ck)).setCell ⟨w.heap.size + 1 + 1 + 1, k * 3 + 2, none⟩ (.int .u8 (k : Int))).drew = wr2 at hg hJ ⊢
      have HSD2 := Lib.hid (HSD.out.grown hg (by omega))
      have HBW2 := Lib.hid (hbw.grown hg (JE_le HSD.out) (fun x e => by injection e with e; omega))
      have HJ2 := Lib.hid hJ
      clear HSD HJ hJ hg cT cC c0 c1 c2 f0 f1 f2 hsl
      go_wp2
      go_roundw
      case rel => exact ⟨k + 1, by omega, by go_num, HJ2.out, HSD2.out, HBW2.out⟩
      case measure => simp [intOf]; omega
    · obtain rfl : k = T.size := by omega
      have cT := cell_T hsd
      have HJ := Lib.hid hj
      have HSD := Lib.hid hsd
      clear hj hsd
      go_wp2_with fail
      refine (sort_any (row (w.heap.size + 1 + 1 + 1)) swo (dk T cs T.size) _ HJ.out (dk_size _ _ _) (by decide)).mono ?_
      rintro e w1 ⟨rfl, d', hp, hs, hsw⟩
      obtain ⟨hd64, hpl, hsl⟩ := sorted_of (dk_size _ _ _) hp hs
      obtain ⟨s, hsel, hby⟩ := sorted_sel T cs hT d' hpl hsl
      have hch := ch_one hpl
      have HF := Lib.hid (And.intro hsel (And.intro hby hch))
      have hsd1 := HSD.out.grown hsw.1 (by omega)
      have hbw1 := hbw.grown hsw.1 (JE_le HSD.out) (fun x e => by injection e with e; omega)
      have hj1 := hsw.2
      have hlt1 := hj1.lt_size
      have HD := Lib.hid hd64
      have HJ1 := Lib.hid hj1
      have HSD1 := Lib.hid hsd1
      clear hp hs hsw hpl hsl hsel hby hch hj1 hd64 hsd1 hbw HSD HJ cT hlt hk
      go_wp2
      go_loopw [39] (fun i wr => Rel2 w H T cs d' w1.heap.size i wr) (fun i _ => 64 - (intOf i).toNat)
      case atStart =>
        refine ⟨0, ⟨#[]⟩, ⟨#[]⟩, Nat.zero_le _, rfl, ?_, HSD1.out.grown (grown_alloc w1 _ (some w1.heap.size)) (by omega), heap_alloc_new w1 _, rfl, rfl, Nat.le_refl _, Nat.le_refl _, hbw1.alloc (by omega) _⟩
        show (World.alloc _ _).heap[_]? = _
        rw [Below.heap_alloc _ _ _ hlt1]
        exact HJ1.out
      case round =>
        obtain ⟨k, hS, tS, hk, rfl, hj, hsd, hmb, ht, hh, htl, hhl, hbw⟩ := hrel
        by_cases hlt : k < 64
        · obtain ⟨c0, c1, c2⟩ := hj.cell (i := k) (by rw [HD.out]; omega)
          have m0 := Lib.cell_of_heap hmb 0
          have m1 := Lib.cell_of_heap hmb 1
          simp only [List.getElem?_toArray, List.getElem?_cons_zero, List.getElem?_cons_succ] at m0 m1
          have f0 := Lib.frozen_of_heap hmb 0
          have f1 := Lib.frozen_of_heap hmb 1
          have HJ := Lib.hid hj
          have HSD := Lib.hid hsd
          have HM := Lib.hid hmb
          clear hj hsd hmb
          have hms : w1.heap.size < wr.heap.size := (Array.getElem?_eq_some_iff.1 HM.out).1
          have hgx : d'.toList[k]? = some d'[k]! := by
            have : k < d'.size := by rw [HD.out]; exact hlt
            simp [this]
          have hx1 := HF.out.2.2 _ (List.mem_of_getElem? hgx)
          generalize d'[k]! = x at *
          have hxs : x.ch.size ≤ 1 := by omega
          have hA : ¬ 9223372036854775807 < hS.size + x.ch.size := by omega
          have hA2 : ¬ 9223372036854775807 < tS.size + x.ch.size := by omega
          have HST := Lib.hid fun (W : World) (hS' : ByteArray) => rel2_step (mb := w1.heap.size) (hS' := hS') (W := W) HJ.out HSD.out hbw ht hh htl hhl hlt hgx hxs
          have HX := Lib.hid hx1
          clear ht hh hgx hx1 HJ HSD HF HL HJ1 HSD1 hbw hbw1
          go_wp2
          · refine ⟨HST.out _ _ (grown_trans (grown_trans (set_grown _ _ _ _) (set_grown _ _ _ _)) (grown_alloc _ _ _)) (by omega) (mb_two HM.out _) (by rw [app_toList, nond_yes _ HX.out (Or.inl (by assumption))]), by simp [intOf]; omega⟩
          · refine ⟨HST.out _ _ (grown_trans (grown_trans (set_grown _ _ _ _) (set_grown _ _ _ _)) (grown_alloc _ _ _)) (by omega) (mb_two HM.out _) (by rw [app_toList, nond_yes _ HX.out (Or.inr (by assumption))]), by simp [intOf]; omega⟩
          · refine ⟨HST.out _ _ (grown_trans (set_grown _ _ _ _) (grown_alloc _ _ _)) (by omega) (mb_one HM.out _) (by rw [nond_no _ HX.out (by assumption) (by assumption), List.append_nil]), by simp [intOf]; omega⟩
        · obtain rfl : k = 64 := by omega
          have hall : d'.toList.take 64 = d'.toList := List.take_of_length_le (by rw [Array.length_toList, HD.out]; exact Nat.le_refl _)
          have m0 := Lib.cell_of_heap hmb 0
          have m1 := Lib.cell_of_heap hmb 1
          simp only [List.getElem?_toArray, List.getElem?_cons_zero, List.getElem?_cons_succ] at m0 m1
          have r0 := Lib.cell_of_heap hsd.2.2 0
          have r1 := Lib.cell_of_heap hsd.2.2 1
          simp only [List.getElem?_toArray, List.getElem?_cons_zero, List.getElem?_cons_succ] at r0 r1
          have q0 := Lib.frozen_of_heap hsd.2.2 0
          have q1 := Lib.frozen_of_heap hsd.2.2 1
          have HALL := Lib.hid hall
          have HSD := Lib.hid hsd
          clear hj hsd hmb hall
          go_wp2
          have hR := set_heap (set_heap HSD.out.2.2 0 (.string hS)) 1 (.string tS)
          refine bodyPost_ret (v := .agg #[.string hS, .string tS]) (by exact results_cell_row (p := 4) (ty := 43) Tryd.results17 _ _ (w.heap.size + 1 + 1) 43 #[.string hS, .string tS] (0, 0) _ rfl hR Tryd.underlying43 rfl (by kernel_rfl)) (by rfl) ?_
          refine ⟨s, HF.out.1, ?_, hbw.grown (grown_trans (set_grown _ _ _ _) (set_grown _ _ _ _)) (JE_le HSD.out) (fun y e => by injection e with e; omega)⟩
          rw [HALL.out, HF.out.2.1] at ht hh
          have e1 : hS = ⟨(headsOf T s).toArray⟩ := bytes_inj hh
          have e2 : tS = ⟨(tailsOf T s).toArray⟩ := bytes_inj ht
          rw [e1, e2]
end Go.Proofs.YtpmihkhmijndaaaDoor.srt
