/- What CharFreq.Scan does: the block of 64 counts holds scanL behind it, every other block stands. -/
import Derived.Test.YtpmihkhmijndaaaDoorRows
import Derived.Test.YtpmihkhmijndaaaDoorCntPlain
import Derived.Test.YtpmihkhmijndaaaDoorEnsPlain
import Derived.WalkKit
import Derived.ProofKit
import Derived.OpenShut
import Derived.Lib.Hide
import Derived.RegionTactic
import Derived.ChangeAlike
import Derived.Below
import Derived.Laws.OwnMore
import Derived.Deep.Draws
import Derived.Laws.Rows
namespace Go.Proofs.YtpmihkhmijndaaaDoor.cnt
open Go.ChangeShapes Go.WideShapes Go.ChangeAt Go.RowKit

def arr (cs : List Int) : Array Value := (cs.map (Value.int .i32)).toArray
def Blk (w : World) (g : Nat) (t : TypeId) (cs : Array Value) : Prop := w.heap[g]? = some (.cells cs t (0, 0))
structure Only (g : Nat) (w w' : World) : Prop where
  os : w'.os = w.os
  tape : w'.tape = w.tape
  output : w'.output = w.output
  size : w'.heap.size = w.heap.size
  block : ∀ k, k ≠ g → w'.heap[k]? = w.heap[k]?
theorem Only.refl (g : Nat) (w : World) : Only g w w := ⟨rfl, rfl, rfl, rfl, fun _ _ => rfl⟩
theorem Only.drew {g : Nat} {w w' : World} (h : Only g w w') : Only g w w'.drew := ⟨h.os, h.tape, h.output, h.size, h.block⟩
theorem Only.setCell {g : Nat} {w w' : World} (h : Only g w w') (k : Nat) (u : Value) : Only g w (w'.setCell ⟨g, k, none⟩ u) :=
  ⟨h.os, h.tape, h.output, by rw [← h.size]; simp [World.setCell], fun j hj => (Below.heap_setCell w' ⟨g, k, none⟩ u j hj).trans (h.block j hj)⟩
theorem Only.below {g B : Nat} {w w' : World} (h : Only g w w') (hB : B ≤ g) : Below B w w' := ⟨h.os, h.tape, h.output, Nat.le_of_eq h.size.symm, fun k hk => h.block k (by omega)⟩

section
variable {w w' : World} {g : Nat} {t : TypeId} {cs : Array Value}
theorem Blk.cell (h : Blk w g t cs) (i : Nat) : w.cell? ⟨g, i, none⟩ = cs[i]? := cell_of_row w g i cs t (0, 0) h
theorem Blk.frozen (h : Blk w g t cs) (i : Nat) : w.frozen? ⟨g, i, none⟩ = false := by
  unfold Blk at h
  simp [World.frozen?, h]
theorem Blk.set_ (h : Blk w g t cs) (i : Nat) (u : Value) : Blk (w.setCell ⟨g, i, none⟩ u) g t (cs.setIfInBounds i u) := by
  unfold Blk at h ⊢
  simp [World.setCell, Array.getElem?_modify, h]
end
theorem arr_get (cs : List Int) (k : Nat) (h : k < cs.length) : (arr cs)[k]? = some (.int .i32 (cs.getD k 0)) := by
  simp [arr, List.getElem?_eq_getElem h]
theorem arr_set (cs : List Int) (k : Nat) (x : Int) : (arr cs).setIfInBounds k (.int .i32 x) = arr (cs.set k x) := by
  simp [arr, List.map_set]

def RelS (s : ByteArray) (d : Int) (cs : List Int) (g : Nat) (t : TypeId) (w : World) (i : Value) (wr : World) : Prop := ∃ pos : Nat, pos ≤ s.size ∧ i = .int .i64 (pos : Int) ∧ Blk wr g t (arr (scanL d cs (s.data.toList.take pos))) ∧ Only g w wr

theorem relS_one {s : ByteArray} {d : Int} {cs : List Int} {g : Nat} {t : TypeId} {w wr : World} {pos : Nat} (hp : pos < s.size) {k : Nat} (hk : idx (s[pos]'hp).toNat = some k)
    (hb : Blk wr g t (arr (scanL d cs (s.data.toList.take pos)))) (ho : Only g w wr) {i : Value} (hi : i = .int .i64 ((pos + 1 : Nat) : Int)) {x : Int} (hx : x = wrap32 ((scanL d cs (s.data.toList.take pos)).getD k 0 + d)) :
    RelS s d cs g t w i (wr.setCell ⟨g, k, none⟩ (.int .i32 x)) := by
  refine ⟨pos + 1, hp, hi, ?_, ho.setCell _ _⟩
  have h := hb.set_ k (.int .i32 x)
  rw [arr_set] at h
  rw [List.take_succ_eq_append_getElem (by rw [ens.len_eq]; exact hp), scan_snoc]
  show Blk _ g t (arr (one d _ (s[pos]'hp)))
  rw [one_some (k := k) hk, ← hx]
  exact h
theorem relS_none {s : ByteArray} {d : Int} {cs : List Int} {g : Nat} {t : TypeId} {w wr : World} {pos : Nat} (hp : pos < s.size) (hk : idx (s[pos]'hp).toNat = none)
    (hb : Blk wr g t (arr (scanL d cs (s.data.toList.take pos)))) (ho : Only g w wr) {i : Value} (hi : i = .int .i64 ((pos + 1 : Nat) : Int)) : RelS s d cs g t w i wr := by
  refine ⟨pos + 1, hp, hi, ?_, ho⟩
  rw [List.take_succ_eq_append_getElem (by rw [ens.len_eq]; exact hp), scan_snoc]
  show Blk _ g t (arr (one d _ (s[pos]'hp)))
  rw [one_none hk]
  exact hb
theorem RelS.drew {s : ByteArray} {d : Int} {cs : List Int} {g : Nat} {t : TypeId} {w wr : World} {i : Value} (h : RelS s d cs g t w i wr) : RelS s d cs g t w i wr.drew := by
  obtain ⟨pos, h1, h2, h3, h4⟩ := h
  exact ⟨pos, h1, h2, h3, h4.drew⟩

set_option maxRecDepth 100000 in
set_option maxHeartbeats 2000000 in
theorem scan_any (s : ByteArray) (hs : s.size ≤ 9223372036854775807) (d : Int) (hd : (d == 0) = false) (cs : List Int) (hl : cs.length = 64) (g : Nat) (t : TypeId) (w : World) (hb : Blk w g t (arr cs)) :
    Calls Tryd.prog 21 #[.pointer (some ⟨g, 0, none⟩), .string s, .int .i32 d] w fun e w' => e = .returned (.tuple #[]) ∧ Blk w' g t (arr (scanL d cs s.data.toList)) ∧ Only g w w' := by
  have HL := Lib.hid hl
  clear hl
  go_enter Tryd.func21, Tryd.ntmps21
  go_wp2
  go_loopw [6] (fun i wr => RelS s d cs g t w i wr) (fun i _ => s.size - (intOf i).toNat)
  case atStart => exact ⟨0, Nat.zero_le _, rfl, hb, Only.refl _ _⟩
  case round =>
    obtain ⟨pos, hpos, rfl, hbk, ho⟩ := hrel
    clear hb
    by_cases hp : pos < s.size
    · have hln : (scanL d cs (s.data.toList.take pos)).length = 64 := (scan_len _ _ _).trans HL.out
      have R1 := fun (k : Nat) (hk : idx (s[pos]'hp).toNat = some k) => @relS_one s d cs g t w wr pos hp k hk hbk ho
      have hcell := fun (k : Nat) (h : k < 64) => (hbk.cell k).trans (arr_get _ k (by rw [hln]; exact h))
      have hfr := hbk.frozen
      have R0 := fun (hk : idx (s[pos]'hp).toNat = none) => @relS_none s d cs g t w wr pos hp hk hbk ho
      have HR0 := Lib.hid R0
      have HR1 := Lib.hid R1
      clear hln R0 R1 hbk
      generalize scanL d cs (s.data.toList.take pos) = cur at *
      have HC := Lib.hid hcell
      have HF := Lib.hid hfr
      clear hcell hfr
      rcases idx_cases (s[pos]'hp).toNat with ⟨h1, h2, h3⟩ | ⟨h1, h2, h3⟩ | ⟨h1, h2, h3⟩ | ⟨h1, h3⟩ | ⟨h1, h3⟩ | ⟨h1, h3⟩
      · have hc := HC.out ((s[pos]'hp).toNat - 97) (by omega)
        have hf := HF.out ((s[pos]'hp).toNat - 97)
        have H3 := Lib.hid h3
        clear h3
        go_wp2
        go_region
        go_wp2
        exact ⟨(HR1.out _ H3.out (by go_num) (by simp)).drew, by simp [intOf]; omega⟩
      · have hc := HC.out ((s[pos]'hp).toNat - 39) (by omega)
        have hf := HF.out ((s[pos]'hp).toNat - 39)
        have H3 := Lib.hid h3
        clear h3
        go_wp2
        go_region
        go_wp2
        exact ⟨(HR1.out _ H3.out (by go_num) (by simp)).drew, by simp [intOf]; omega⟩
      · have hc := HC.out ((s[pos]'hp).toNat + 4) (by omega)
        have hf := HF.out ((s[pos]'hp).toNat + 4)
        have H3 := Lib.hid h3
        clear h3
        go_wp2
        go_region
        go_wp2
        exact ⟨(HR1.out _ H3.out (by go_num) (by simp)).drew, by simp [intOf]; omega⟩
      · have hq : (((s[pos]'hp).toNat : Int) == 95) = true := by simp; omega
        have hlo : 95 ≤ (s[pos]'hp).toNat := by omega
        have hhi : (s[pos]'hp).toNat ≤ 95 := by omega
        clear h1
        have hc := HC.out (62) (by omega)
        have hf := HF.out (62)
        have H3 := Lib.hid h3
        clear h3
        go_wp2
        go_region
        go_wp2
        exact ⟨(HR1.out _ H3.out (by go_num) (by simp)).drew, by simp [intOf]; omega⟩
      · have hq : (((s[pos]'hp).toNat : Int) == 36) = true := by simp; omega
        have hlo : 36 ≤ (s[pos]'hp).toNat := by omega
        have hhi : (s[pos]'hp).toNat ≤ 36 := by omega
        clear h1
        have hc := HC.out (63) (by omega)
        have hf := HF.out (63)
        have H3 := Lib.hid h3
        clear h3
        go_wp2
        go_region
        go_wp2
        exact ⟨(HR1.out _ H3.out (by go_num) (by simp)).drew, by simp [intOf]; omega⟩
      · have H3 := Lib.hid h3
        clear h3
        rcases h1 with h1 | h1 | h1 | h1 | h1 | h1
        all_goals
          have hq1 : (((s[pos]'hp).toNat : Int) == 95) = false := by simp; omega
          have hq2 : (((s[pos]'hp).toNat : Int) == 36) = false := by simp; omega
          go_wp2
          exact ⟨HR0.out H3.out (by go_num), by simp [intOf]; omega⟩
    · obtain rfl : pos = s.size := by omega
      have hall : s.data.toList.take s.size = s.data.toList := List.take_of_length_le (by rw [ens.len_eq]; exact Nat.le_refl _)
      rw [hall] at hbk
      clear hall
      go_wp2
      go_end0
      exact ⟨rfl, hbk, ho⟩

theorem scan_zero_any (s : ByteArray) (cs : List Int) (hfit : Fits cs) (g : Nat) (t : TypeId) (w : World) (hb : Blk w g t (arr cs)) :
    Calls Tryd.prog 21 #[.pointer (some ⟨g, 0, none⟩), .string s, .int .i32 0] w fun e w' => e = .returned (.tuple #[]) ∧ Blk w' g t (arr (scanL 0 cs s.data.toList)) ∧ Only g w w' := by
  rw [scan_zero hfit]
  go_enter Tryd.func21, Tryd.ntmps21
  go_wp2
  first | go_end0 | refine bodyPost_ret (results_none rfl _ _ _) rfl ?_
  exact ⟨rfl, hb, Only.refl _ _⟩

theorem scan_both (s : ByteArray) (hs : s.size ≤ 9223372036854775807) (d : Int) (cs : List Int) (hl : cs.length = 64) (hfit : Fits cs) (g : Nat) (t : TypeId) (w : World) (hb : Blk w g t (arr cs)) :
    Calls Tryd.prog 21 #[.pointer (some ⟨g, 0, none⟩), .string s, .int .i32 d] w fun e w' => e = .returned (.tuple #[]) ∧ Blk w' g t (arr (scanL d cs s.data.toList)) ∧ Only g w w' := by
  by_cases h : d = 0
  · subst h; exact scan_zero_any s cs hfit g t w hb
  · exact scan_any s hs d (by simpa using h) cs hl g t w hb
end Go.Proofs.YtpmihkhmijndaaaDoor.cnt
