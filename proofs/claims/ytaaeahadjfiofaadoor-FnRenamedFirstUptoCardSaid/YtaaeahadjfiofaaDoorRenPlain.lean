/- The plain law of renaming: a name that is not yet given stays, one that is gets digits behind it; among so many numbers one is free. No program in this text. -/
import Derived.Lib.ItoaNum
import Derived.Lib.ItoaMem
namespace Go.Proofs.YtaaeahadjfiofaaDoor.ren
open Go.Lib

abbrev L := List UInt8
def Dig (c : UInt8) : Prop := 48 ≤ c.toNat ∧ c.toNat ≤ 57
theorem dec_dig (u : Nat) : ∀ c ∈ decDigits u, Dig c := by
  induction u using Nat.strongRecOn with
  | _ u ih =>
    intro c hc
    rw [decDigits] at hc
    split at hc
    · rename_i h
      rw [List.mem_singleton] at hc
      subst hc
      unfold Dig
      rw [UInt8.toNat_ofNat']
      omega
    · rename_i h
      rcases List.mem_append.1 hc with h1 | h1
      · exact ih (u / 10) (by omega) c h1
      · rw [List.mem_singleton] at h1
        subst h1
        unfold Dig
        rw [UInt8.toNat_ofNat']
        omega
def val (l : L) : Nat := l.foldl (fun a c => a * 10 + (c.toNat - 48)) 0
theorem val_snoc (l : L) (c : UInt8) : val (l ++ [c]) = val l * 10 + (c.toNat - 48) := by simp [val]
theorem val_dec (u : Nat) : val (decDigits u) = u := by
  induction u using Nat.strongRecOn with
  | _ u ih =>
    rw [decDigits]
    split
    · rename_i h
      show val ([] ++ [UInt8.ofNat (48 + u)]) = u
      rw [val_snoc, UInt8.toNat_ofNat']
      simp [val]
      omega
    · rename_i h
      rw [val_snoc, ih (u / 10) (by omega), UInt8.toNat_ofNat']
      omega
theorem dec_inj {a b : Nat} (h : decDigits a = decDigits b) : a = b := by rw [← val_dec a, ← val_dec b, h]

/-- the name that is tried at the j-th turn. -/
def tried (pre : L) (t0 j : Nat) : L := pre ++ decDigits ((t0 + j) % 4294967296)
theorem tried_inj {pre : L} {t0 i j : Nat} (hi : i < 4294967296) (hj : j < 4294967296) (h : tried pre t0 i = tried pre t0 j) : i = j := by
  have := dec_inj (List.append_cancel_left h)
  omega

theorem nodup_le {l : List L} : ∀ U : List L, l.Nodup → (∀ x ∈ l, x ∈ U) → l.length ≤ U.length := by
  induction l with
  | nil => intro U _ _; exact Nat.zero_le _
  | cons a l ih =>
    intro U hn hs
    have ha : a ∈ U := hs a (by simp)
    have hn' := List.nodup_cons.1 hn
    have := ih (U.erase a) hn'.2 (fun x hx => (List.mem_erase_of_ne (by intro e; subst e; exact hn'.1 hx)).2 (hs x (by simp [hx])))
    rw [List.length_erase_of_mem ha] at this
    have h0 : 0 < U.length := List.length_pos_of_mem ha
    simp only [List.length_cons]
    omega
theorem nodup_range (f : Nat → L) (n : Nat) (h : ∀ i j, i < n → j < n → f i = f j → i = j) : ((List.range n).map f).Nodup := by
  induction n with
  | zero => simp
  | succ n ih =>
    rw [List.range_succ, List.map_append, List.nodup_append]
    refine ⟨ih fun i j hi hj => h i j (by omega) (by omega), by simp, ?_⟩
    intro x hx y hy e
    simp at hx hy
    obtain ⟨i, hi, rfl⟩ := hx
    subst hy
    have := h i n (by omega) (by omega) e
    omega
/-- So many turns at the most: each name that was tried is one of U. -/
theorem turns_le {pre : L} {t0 j : Nat} {U : List L} (hU : U.length < 4294967295) (h : ∀ i, i < j → tried pre t0 (i + 1) ∈ U) : j ≤ U.length := by
  rcases Nat.lt_or_ge U.length j with hlt | hge
  · exfalso
    have hn := nodup_range (fun i => tried pre t0 (i + 1)) (U.length + 1) (fun a b ha hb e => by
      have := tried_inj (by omega) (by omega) e
      omega)
    have := nodup_le U hn (fun x hx => by
      simp at hx
      obtain ⟨i, hi, rfl⟩ := hx
      exact h i (by omega))
    simp at this
    omega
  · exact hge

/-- What is given for a name, those of U being given. -/
def Renames (U : List L) (name s : L) : Prop := s ∉ U ∧ (name ∉ U → s = name) ∧ ∃ ds : L, (∀ c ∈ ds, Dig c) ∧ ds.length ≤ 20 ∧ s = name ++ ds
theorem ren_same {U : List L} {name : L} (h : name ∉ U) : Renames U name name := ⟨h, fun _ => rfl, [], by simp, by simp, by simp⟩
/-- All that was asked for and all that was given, in order. -/
def Given (l outs : List L) : Prop := outs.length ≤ l.length ∧ ∀ i, i < outs.length → Renames (outs.take i) (l.getD i []) (outs.getD i [])
theorem given_nil (l : List L) : Given l [] := ⟨Nat.zero_le _, fun i hi => absurd hi (by simp)⟩
theorem given_snoc {l outs : List L} (h : Given l outs) (hl : outs.length < l.length) {s : L} (hs : Renames outs (l.getD outs.length []) s) : Given l (outs ++ [s]) := by
  refine ⟨by simp; omega, fun i hi => ?_⟩
  simp at hi
  by_cases e : i = outs.length
  · subst e
    rw [List.take_append_of_le_length (Nat.le_refl _), List.take_of_length_le (Nat.le_refl _)]
    have e2 : (outs ++ [s]).getD outs.length [] = s := by simp
    rw [e2]
    exact hs
  · have := h.2 i (by omega)
    rw [List.take_append_of_le_length (by omega)]
    have e2 : (outs ++ [s]).getD i [] = outs.getD i [] := by
      simp only [List.getD_eq_getElem?_getD]
      rw [List.getElem?_append_left (by omega)]
    rw [e2]
    exact this
end Go.Proofs.YtaaeahadjfiofaaDoor.ren
