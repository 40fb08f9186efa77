/- The plain law under FnEnsured and FnEnsuredAgain: the fold that makes a name of bytes; that a rune of several bytes counts as a gap, byte by byte; that what is made stays. No program in this text. -/
import Derived.Lib.DecodeN
import Derived.Laws.RangeAny
namespace Go.Proofs.YtpmihkhmijndaaaDoor.ens

def isL (c : Nat) : Bool := (decide (97 ≤ c) && decide (c ≤ 122)) || (decide (65 ≤ c) && decide (c ≤ 90))
def isD (c : Nat) : Bool := decide (48 ≤ c) && decide (c ≤ 57)
def takes (out : List UInt8) (c : Nat) : Bool := isL c || (isD c && !out.isEmpty)
def step (st : List UInt8 × Bool) (c : UInt8) : List UInt8 × Bool :=
  if takes st.1 c.toNat = true then ((if st.2 = true then st.1 ++ [95] else st.1) ++ [c], false) else (st.1, !st.1.isEmpty)
def run (l : List UInt8) : List UInt8 × Bool := l.foldl step ([], false)
def ens (l : List UInt8) : List UInt8 := if (run l).1.isEmpty = true then [95] else (run l).1

theorem snoc_ind {α : Type} {P : List α → Prop} (h0 : P []) (h1 : ∀ l c, P l → P (l ++ [c])) (l : List α) : P l := by
  have h : ∀ r : List α, P r.reverse := by
    intro r
    induction r with
    | nil => simpa using h0
    | cons x r ih => rw [List.reverse_cons]; exact h1 _ _ ih
  simpa using h l.reverse

theorem run_snoc (l : List UInt8) (c : UInt8) : run (l ++ [c]) = step (run l) c := by simp [run]
theorem run_nil : run [] = ([], false) := rfl

theorem step_take (st : List UInt8 × Bool) (c : UInt8) (h : takes st.1 c.toNat = true) : step st c = ((if st.2 = true then st.1 ++ [95] else st.1) ++ [c], false) := by unfold step; rw [if_pos h]
theorem step_gap (st : List UInt8 × Bool) (c : UInt8) (h : takes st.1 c.toNat = false) : step st c = (st.1, !st.1.isEmpty) := by unfold step; rw [if_neg (by simp [h])]

theorem run_len (l : List UInt8) : (run l).1.length + (if (run l).2 = true then 1 else 0) ≤ l.length := by
  refine snoc_ind (P := fun l => (run l).1.length + (if (run l).2 = true then 1 else 0) ≤ l.length) (by simp [run]) ?_ l
  intro l c ih
  rw [run_snoc]
  cases h : takes (run l).1 c.toNat with
  | true =>
    rw [step_take _ _ h]
    cases hg : (run l).2 <;> simp [hg] at ih ⊢ <;> omega
  | false =>
    rw [step_gap _ _ h]
    simp only [List.length_append, List.length_cons, List.length_nil]
    split <;> split at ih <;> omega

theorem run_gap (l : List UInt8) : (run l).2 = true → (run l).1 ≠ [] := by
  refine snoc_ind (P := fun l => (run l).2 = true → (run l).1 ≠ []) (by simp [run]) ?_ l
  intro l c ih
  rw [run_snoc]
  cases h : takes (run l).1 c.toNat with
  | true => rw [step_take _ _ h]; simp
  | false => rw [step_gap _ _ h]; simp

theorem takes_high (out : List UInt8) (c : Nat) (h : 128 ≤ c) : takes out c = false := by
  simp [takes, isL, isD]; omega

theorem run_high (l r : List UInt8) (hr : r ≠ []) (h : ∀ c ∈ r, 128 ≤ c.toNat) : run (l ++ r) = ((run l).1, !(run l).1.isEmpty) := by
  revert hr h
  refine snoc_ind (P := fun r => r ≠ [] → (∀ c ∈ r, 128 ≤ c.toNat) → run (l ++ r) = ((run l).1, !(run l).1.isEmpty)) (by simp) ?_ r
  intro r c ih _ h
  rw [← List.append_assoc, run_snoc]
  have hc : takes (run (l ++ r)).1 c.toNat = false := takes_high _ _ (h c (by simp))
  rw [step_gap _ _ hc]
  by_cases e : r = []
  · subst e; simp
  · rw [ih e (fun x hx => h x (by simp [hx]))]

theorem run_run (l : List UInt8) : run (run l).1 = ((run l).1, false) := by
  refine snoc_ind (P := fun l => run (run l).1 = ((run l).1, false)) (by simp [run]) ?_ l
  intro l c ih
  rw [run_snoc]
  cases h : takes (run l).1 c.toNat with
  | true =>
    rw [step_take _ _ h]
    cases hg : (run l).2 with
    | true =>
      have hne := run_gap l hg
      simp only [if_true]
      rw [run_snoc, run_snoc, ih, step_gap _ 95 (by simp [takes, isL, isD])]
      have he : (run l).1.isEmpty = false := by simpa using hne
      rw [step_take _ _ (by simpa using h)]
      simp [he]
    | false =>
      simp only [Bool.false_eq_true, if_false]
      rw [run_snoc, ih, step_take _ _ (by simpa using h)]
      simp
  | false => rw [step_gap _ _ h]; exact ih

theorem ens_ens (l : List UInt8) : ens (ens l) = ens l := by
  cases h : (run l).1.isEmpty with
  | true => have e : ens l = [95] := by unfold ens; rw [if_pos h]
            rw [e]; rfl
  | false =>
    have e : ens l = (run l).1 := by unfold ens; rw [if_neg (by simp [h])]
    rw [e]
    unfold ens
    rw [run_run]
    simp [h]

theorem ens_ne (l : List UInt8) : ens l ≠ [] := by
  unfold ens
  split
  · simp
  · rename_i h; simpa using h

theorem ens_len (l : List UInt8) : (ens l).length ≤ l.length + 1 := by
  have := run_len l
  unfold ens
  split
  · simp
  · split at this <;> omega

theorem len_eq (s : ByteArray) : s.data.toList.length = s.size := Array.length_toList

theorem get_byte (s : ByteArray) (i : Nat) : s.get! i = s.data.toList.getD i 0 := by
  cases s with
  | mk a =>
    show a[i]! = a.toList.getD i 0
    rw [getElem!_def, List.getD_eq_getElem?_getD, Array.getElem?_toList]
    cases a[i]? <;> rfl

theorem getD_eq (s : ByteArray) (i : Nat) (h : i < s.size) : s[i]'h = s.data.toList.getD i 0 := by
  rw [List.getD_eq_getElem?_getD, List.getElem?_eq_getElem (by rw [len_eq]; exact h)]
  rfl

theorem width_cases (n b0 b1 b2 b3 : Nat) : ((Lib.decodeN n b0 b1 b2 b3).2 = 1) ∨ ((Lib.decodeN n b0 b1 b2 b3).2 = 2 ∧ 1 < n ∧ 128 ≤ b1) ∨ ((Lib.decodeN n b0 b1 b2 b3).2 = 3 ∧ 2 < n ∧ 128 ≤ b1 ∧ 128 ≤ b2) ∨
    ((Lib.decodeN n b0 b1 b2 b3).2 = 4 ∧ 3 < n ∧ 128 ≤ b1 ∧ 128 ≤ b2 ∧ 128 ≤ b3) := by
  unfold Lib.decodeN
  repeat' split
  all_goals first | exact Or.inl rfl | (refine Or.inr (Or.inl ⟨rfl, ?_⟩); omega) | (refine Or.inr (Or.inr (Or.inl ⟨rfl, ?_⟩)); omega) | (refine Or.inr (Or.inr (Or.inr ⟨rfl, ?_⟩)); omega)

theorem dec_high (s : ByteArray) (pos : Nat) (h : pos < s.size) (ha : 128 ≤ (s.data.toList.getD pos 0).toNat) :
    1 ≤ (Utf8.decode s pos).2 ∧ pos + (Utf8.decode s pos).2 ≤ s.size ∧ ∀ j, j < (Utf8.decode s pos).2 → 128 ≤ (s.data.toList.getD (pos + j) 0).toNat := by
  rw [Lib.decode_at]
  simp only [get_byte]
  have hw := width_cases (s.size - pos) (s.data.toList.getD pos 0).toNat (s.data.toList.getD (pos + 1) 0).toNat (s.data.toList.getD (pos + 2) 0).toNat (s.data.toList.getD (pos + 3) 0).toNat
  generalize (Lib.decodeN (s.size - pos) (s.data.toList.getD pos 0).toNat (s.data.toList.getD (pos + 1) 0).toNat (s.data.toList.getD (pos + 2) 0).toNat (s.data.toList.getD (pos + 3) 0).toNat).2 = k at *
  refine ⟨by omega, by omega, fun j hj => ?_⟩
  have hj4 : j = 0 ∨ j = 1 ∨ j = 2 ∨ j = 3 := by omega
  rcases hj4 with rfl | rfl | rfl | rfl
  · exact ha
  · omega
  · omega
  · omega

theorem run_decode (s : ByteArray) (pos : Nat) (h : pos < s.size) (ha : 128 ≤ (s.data.toList.getD pos 0).toNat) :
    run (s.data.toList.take (pos + (Utf8.decode s pos).2)) = ((run (s.data.toList.take pos)).1, !(run (s.data.toList.take pos)).1.isEmpty) := by
  obtain ⟨hw, hs, hb⟩ := dec_high s pos h ha
  generalize (Utf8.decode s pos).2 = n at *
  have hl := len_eq s
  rw [List.take_add]
  have hlen : (List.take n (List.drop pos s.data.toList)).length = n := by rw [List.length_take, List.length_drop, hl]; omega
  refine run_high _ _ (by intro e; rw [e] at hlen; simp at hlen; omega) ?_
  intro c hc
  obtain ⟨j, hj, rfl⟩ := List.getElem_of_mem hc
  have hj' : j < n := by omega
  have := hb j hj'
  rw [List.getD_eq_getElem?_getD, List.getElem?_eq_getElem (by omega)] at this
  simpa using this

theorem run_byte (s : ByteArray) (pos : Nat) (h : pos < s.size) : run (s.data.toList.take (pos + 1)) = step (run (s.data.toList.take pos)) (s.data.toList.getD pos 0) := by
  have hl := len_eq s
  rw [List.take_succ_eq_append_getElem (by omega), run_snoc, List.getD_eq_getElem?_getD, List.getElem?_eq_getElem (by omega)]
  rfl

theorem takes_iff (out : List UInt8) (c : Nat) : takes out c = true ↔ (97 ≤ c ∧ c ≤ 122) ∨ (65 ≤ c ∧ c ≤ 90) ∨ (48 ≤ c ∧ c ≤ 57 ∧ 0 < out.length) := by
  cases out <;> simp [takes, isL, isD] <;> omega

theorem next_any (s : ByteArray) (pos : Nat) (h : pos < s.size) (out : List UInt8) (gap : Bool) (hr : run (s.data.toList.take pos) = (out, gap)) :
    1 ≤ (Utf8.decode s pos).2 ∧ pos + (Utf8.decode s pos).2 ≤ s.size ∧
    (takes out (Utf8.decode s pos).1 = true → (Utf8.decode s pos).1 < 128 ∧ run (s.data.toList.take (pos + (Utf8.decode s pos).2)) = ((if gap = true then out ++ [95] else out) ++ [UInt8.ofNat (Utf8.decode s pos).1], false)) ∧
    (takes out (Utf8.decode s pos).1 = false → run (s.data.toList.take (pos + (Utf8.decode s pos).2)) = (out, !out.isEmpty)) := by
  have hg := getD_eq s pos h
  by_cases ha : (s[pos]'h).toNat < 128
  · rw [decode_ascii s pos h ha]
    have hb := run_byte s pos h
    rw [← hg, hr] at hb
    refine ⟨Nat.le_refl _, h, fun ht => ⟨ha, ?_⟩, fun ht => ?_⟩
    · rw [hb, step_take _ _ ht, UInt8.ofNat_toNat]
    · rw [hb, step_gap _ _ ht]
  · have ha' : 128 ≤ (s.data.toList.getD pos 0).toNat := by rw [← hg]; omega
    obtain ⟨h1, h2, _⟩ := dec_high s pos h ha'
    have h3 := (decode_high s pos h (by omega)).1
    have hd := run_decode s pos h ha'
    rw [hr] at hd
    refine ⟨h1, h2, fun ht => ?_, fun _ => hd⟩
    rw [takes_high _ _ h3] at ht
    cases ht
end Go.Proofs.YtpmihkhmijndaaaDoor.ens
