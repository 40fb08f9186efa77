/- The plain law under FnCounts and FnIncluded: which of the 64 places a byte is counted at, and how the counts grow. No program in this text. -/
import Derived.WalkKit
namespace Go.Proofs.YtpmihkhmijndaaaDoor.cnt
open Go.RowKit

def idx (c : Nat) : Option Nat :=
  if 97 ≤ c ∧ c ≤ 122 then some (c - 97) else if 65 ≤ c ∧ c ≤ 90 then some (c - 39) else if 48 ≤ c ∧ c ≤ 57 then some (c + 4) else if c = 95 then some 62 else if c = 36 then some 63 else none

theorem idx_lt {c k : Nat} (h : idx c = some k) : k < 64 := by
  unfold idx at h
  repeat' split at h
  all_goals first | (injection h with h; omega) | cases h

def bump (cs : List Int) (k : Nat) (d : Int) : List Int := cs.set k (wrap32 (cs.getD k 0 + d))
def one (d : Int) (cs : List Int) (c : UInt8) : List Int := match idx c.toNat with | some k => bump cs k d | none => cs
def scanL (d : Int) (cs : List Int) (l : List UInt8) : List Int := l.foldl (one d) cs
def all (cs : List Int) (L : List (ByteArray × Int)) : List Int := L.foldl (fun cs p => scanL p.2 cs p.1.data.toList) cs
def z64 : List Int := List.replicate 64 0

theorem bump_len (cs : List Int) (k : Nat) (d : Int) : (bump cs k d).length = cs.length := by simp [bump]
theorem one_len (d : Int) (cs : List Int) (c : UInt8) : (one d cs c).length = cs.length := by unfold one; split <;> simp [bump]
theorem scan_len (d : Int) (cs : List Int) (l : List UInt8) : (scanL d cs l).length = cs.length := by
  unfold scanL
  induction l generalizing cs with
  | nil => rfl
  | cons c l ih => rw [List.foldl_cons, ih, one_len]
theorem all_len (cs : List Int) (L : List (ByteArray × Int)) : (all cs L).length = cs.length := by
  unfold all
  induction L generalizing cs with
  | nil => rfl
  | cons p L ih => rw [List.foldl_cons, ih, scan_len]
theorem z64_len : z64.length = 64 := by simp [z64]

def Fits (cs : List Int) : Prop := ∀ k, -2147483648 ≤ cs.getD k 0 ∧ cs.getD k 0 ≤ 2147483647
theorem wrap32_bd (x : Int) : -2147483648 ≤ wrap32 x ∧ wrap32 x ≤ 2147483647 := by unfold wrap32; omega
theorem bump_fits {cs : List Int} (h : Fits cs) (k : Nat) (d : Int) : Fits (bump cs k d) := by
  intro j
  unfold bump
  rw [List.getD_eq_getElem?_getD, List.getElem?_set]
  split
  · split
    · exact wrap32_bd _
    · simp
  · have := h j; rw [List.getD_eq_getElem?_getD] at this; exact this
theorem one_fits {cs : List Int} (h : Fits cs) (d : Int) (c : UInt8) : Fits (one d cs c) := by
  unfold one
  split
  · exact bump_fits h _ _
  · exact h
theorem scan_fits {cs : List Int} (h : Fits cs) (d : Int) (l : List UInt8) : Fits (scanL d cs l) := by
  unfold scanL
  induction l generalizing cs with
  | nil => exact h
  | cons c l ih => rw [List.foldl_cons]; exact ih (one_fits h d c)
theorem all_fits {cs : List Int} (h : Fits cs) (L : List (ByteArray × Int)) : Fits (all cs L) := by
  unfold all
  induction L generalizing cs with
  | nil => exact h
  | cons p L ih => rw [List.foldl_cons]; exact ih (scan_fits h _ _)
theorem z64_fits : Fits z64 := by
  intro k
  rw [List.getD_eq_getElem?_getD, z64, List.getElem?_replicate]
  split <;> simp

theorem wrap32_same {x : Int} (h : -2147483648 ≤ x ∧ x ≤ 2147483647) : wrap32 x = x := by unfold wrap32; omega
theorem bump_zero {cs : List Int} (h : Fits cs) (k : Nat) : bump cs k 0 = cs := by
  unfold bump
  rw [Int.add_zero, wrap32_same (h k)]
  refine List.ext_getElem? fun j => ?_
  rw [List.getElem?_set]
  split
  · rename_i e
    subst e
    split
    · rename_i hl; rw [List.getD_eq_getElem?_getD, List.getElem?_eq_getElem hl]; rfl
    · rename_i hl; rw [List.getElem?_eq_none (by omega)]
  · rfl
theorem scan_zero {cs : List Int} (h : Fits cs) (l : List UInt8) : scanL 0 cs l = cs := by
  unfold scanL
  induction l with
  | nil => rfl
  | cons c l ih =>
    rw [List.foldl_cons]
    have : one 0 cs c = cs := by unfold one; split; exact bump_zero h _; rfl
    rw [this]; exact ih

theorem scan_snoc (d : Int) (cs : List Int) (l : List UInt8) (c : UInt8) : scanL d cs (l ++ [c]) = one d (scanL d cs l) c := by simp [scanL]
theorem one_some {d : Int} {cs : List Int} {c : UInt8} {k : Nat} (h : idx c.toNat = some k) : one d cs c = cs.set k (wrap32 (cs.getD k 0 + d)) := by unfold one; rw [h]; rfl
theorem one_none {d : Int} {cs : List Int} {c : UInt8} (h : idx c.toNat = none) : one d cs c = cs := by unfold one; rw [h]
theorem all_snoc (cs : List Int) (L : List (ByteArray × Int)) (p : ByteArray × Int) : all cs (L ++ [p]) = scanL p.2 (all cs L) p.1.data.toList := by simp [all]

theorem idx_cases (c : Nat) : (97 ≤ c ∧ c ≤ 122 ∧ idx c = some (c - 97)) ∨ (65 ≤ c ∧ c ≤ 90 ∧ idx c = some (c - 39)) ∨ (48 ≤ c ∧ c ≤ 57 ∧ idx c = some (c + 4)) ∨ (c = 95 ∧ idx c = some 62) ∨ (c = 36 ∧ idx c = some 63) ∨
    ((122 < c ∨ (95 < c ∧ c < 97) ∨ (90 < c ∧ c < 95) ∨ (57 < c ∧ c < 65) ∨ (36 < c ∧ c < 48) ∨ c < 36) ∧ idx c = none) := by
  unfold idx
  repeat' split
  all_goals first | (left; refine ⟨?_, ?_, rfl⟩ <;> omega) | (right; left; refine ⟨?_, ?_, rfl⟩ <;> omega) | (right; right; left; refine ⟨?_, ?_, rfl⟩ <;> omega) | (right; right; right; left; exact ⟨by omega, rfl⟩) | (right; right; right; right; left; exact ⟨by omega, rfl⟩) | (right; right; right; right; right; exact ⟨by omega, rfl⟩)
end Go.Proofs.YtpmihkhmijndaaaDoor.cnt
