/- The plain law of the shuffled signs: a sorted permutation of the entries, and the reference's choice of the best one again and again, are one list. No program in this text. -/
import Derived.Test.YtpmihkhmijndaaaDoorSortH
namespace Go.Proofs.YtpmihkhmijndaaaDoor.srt

def before (cs : List Int) (i j : Nat) : Prop := cs.getD j 0 < cs.getD i 0 ∨ (cs.getD i 0 = cs.getD j 0 ∧ i < j)
def IsSel (m : Nat) (cs : List Int) (s : List Nat) : Prop := s.Perm (List.range m) ∧ s.Pairwise (before cs)
theorem before_asymm {cs : List Int} {i j : Nat} (h : before cs i j) : ¬ before cs j i := by unfold before at *; omega

theorem uniq {R : Nat → Nat → Prop} (ha : ∀ a b, R a b → ¬ R b a) (l1 : List Nat) : ∀ l2 : List Nat, l1.Perm l2 → l1.Pairwise R → l2.Pairwise R → l1 = l2 := by
  induction l1 with
  | nil => intro l2 hp _ _; exact (List.nil_perm.1 hp).symm
  | cons a l1 ih =>
    intro l2 hp h1 h2
    rcases l2 with _ | ⟨b, l2⟩
    · exact absurd (List.perm_nil.1 hp) (by simp)
    · have h1' := List.pairwise_cons.1 h1
      have h2' := List.pairwise_cons.1 h2
      by_cases e : a = b
      · subst e
        rw [ih l2 ((List.perm_cons a).1 hp) h1'.2 h2'.2]
      · exfalso
        have hb : b ∈ a :: l1 := hp.symm.subset (by simp)
        have hA : a ∈ b :: l2 := hp.subset (by simp)
        have hb' : b ∈ l1 := by
          rcases List.mem_cons.1 hb with h | h
          · exact absurd h.symm e
          · exact h
        have ha' : a ∈ l2 := by
          rcases List.mem_cons.1 hA with h | h
          · exact absurd h e
          · exact h
        exact ha a b (h1'.1 b hb') (h2'.1 a ha')
theorem sel_uniq {m : Nat} {cs : List Int} {s t : List Nat} (h : IsSel m cs s) (k : IsSel m cs t) : s = t :=
  uniq (fun _ _ => before_asymm) s t (h.1.trans k.1.symm) h.2 k.2

def bytesOf (l : List Ent) : List UInt8 := l.flatMap fun x => x.ch.data.toList
def real (T : ByteArray) (cs : List Int) (i : Nat) : Ent := ⟨T.extract i (i + 1), cs.getD i 0, i⟩
def zero : Ent := ⟨⟨#[]⟩, 0, 0⟩
def dk (T : ByteArray) (cs : List Int) (k : Nat) : Array Ent := ((List.range 64).map fun i => if i < k then real T cs i else zero).toArray
theorem dk_size (T : ByteArray) (cs : List Int) (k : Nat) : (dk T cs k).size = 64 := by simp [dk]
def tailsOf (T : ByteArray) (s : List Nat) : List UInt8 := s.map fun i => T.data.toList.getD i 0
def nond (c : UInt8) : Bool := decide (c.toNat < 48) || decide (57 < c.toNat)
def headsOf (T : ByteArray) (s : List Nat) : List UInt8 := (tailsOf T s).filter nond

theorem len_eq (s : ByteArray) : s.data.toList.length = s.size := Array.length_toList
theorem extract_one (s : ByteArray) (j : Nat) (h : j < s.size) : (s.extract j (j + 1)).data.toList = [s.data.toList.getD j 0] := by
  have hl := len_eq s
  have e : (s.extract j (j + 1)).data.toList = (s.data.toList.take (j + 1)).drop j := by
    simp [ByteArray.data_extract, Array.toList_extract, List.extract_eq_take_drop, List.drop_take]
  rw [e, List.take_succ_eq_append_getElem (by omega), List.drop_append_of_le_length (by rw [List.length_take]; omega), List.drop_of_length_le (by rw [List.length_take]; omega), List.nil_append, List.getD_eq_getElem?_getD, List.getElem?_eq_getElem (by omega)]
  rfl

def isReal (x : Ent) : Bool := x.ch.size == 1
theorem real_is (T : ByteArray) (cs : List Int) (i : Nat) (h : i < T.size) : isReal (real T cs i) = true := by
  unfold isReal real
  rw [ByteArray.size_extract]
  simp
  omega
theorem zero_not : isReal zero = false := rfl

theorem dk_mem {T : ByteArray} {cs : List Int} {x : Ent} (hx : x ∈ (dk T cs T.size).toList) : (isReal x = true ∧ x = real T cs x.idx ∧ x.idx < T.size) ∨ (isReal x = false ∧ x.ch.data.toList = []) := by
  simp only [dk, List.mem_map, List.mem_range] at hx
  obtain ⟨i, hi, rfl⟩ := hx
  by_cases h : i < T.size
  · rw [if_pos h]
    exact Or.inl ⟨real_is T cs i h, rfl, h⟩
  · rw [if_neg h]
    exact Or.inr ⟨rfl, rfl⟩
theorem dk_idx (T : ByteArray) (cs : List Int) (hT : T.size ≤ 64) : ((dk T cs T.size).toList.filter isReal).map (·.idx) = List.range T.size := by
  have h : ∀ n, n ≤ 64 → (((List.range n).map fun i => if i < T.size then real T cs i else zero).filter isReal).map (·.idx) = List.range (min n T.size) := by
    intro n hn
    induction n with
    | zero => simp
    | succ n ih =>
      rw [List.range_succ, List.map_append, List.filter_append, List.map_append, ih (by omega)]
      by_cases h : n < T.size
      · simp only [List.map_cons, List.map_nil, if_pos h, List.filter_cons, real_is T cs n h, if_true, List.filter_nil]
        rw [Nat.min_eq_left (by omega), Nat.min_eq_left (by omega), List.range_succ]
        rfl
      · simp only [List.map_cons, List.map_nil, if_neg h, List.filter_cons, zero_not, Bool.false_eq_true, if_false, List.filter_nil, List.append_nil]
        rw [Nat.min_eq_right (by omega), Nat.min_eq_right (by omega)]
  have := h 64 (Nat.le_refl _)
  rw [Nat.min_eq_right hT] at this
  exact this

theorem bytes_filter (l : List Ent) (h : ∀ x ∈ l, isReal x = false → x.ch.data.toList = []) : bytesOf l = bytesOf (l.filter isReal) := by
  induction l with
  | nil => rfl
  | cons x l ih =>
    have ih' := ih fun y hy => h y (by simp [hy])
    cases hx : isReal x with
    | true => rw [List.filter_cons_of_pos hx]; show x.ch.data.toList ++ bytesOf l = x.ch.data.toList ++ bytesOf _; rw [ih']
    | false =>
      rw [List.filter_cons_of_neg (by simp [hx])]
      show x.ch.data.toList ++ bytesOf l = _
      rw [h x (by simp) hx, List.nil_append, ih']
theorem bytes_real (T : ByteArray) (cs : List Int) (l : List Ent) (h : ∀ x ∈ l, x = real T cs x.idx ∧ x.idx < T.size) : bytesOf l = tailsOf T (l.map (·.idx)) := by
  induction l with
  | nil => rfl
  | cons x l ih =>
    obtain ⟨h1, h2⟩ := h x (by simp)
    have e : x.ch.data.toList = [T.data.toList.getD x.idx 0] := by
      have := extract_one T x.idx h2
      rw [h1]
      exact this
    show x.ch.data.toList ++ bytesOf l = T.data.toList.getD x.idx 0 :: tailsOf T (l.map (·.idx))
    rw [e, ih fun y hy => h y (by simp [hy])]
    rfl

/-- A sorted permutation of the entries reads as the signs in their order. -/
theorem sorted_sel (T : ByteArray) (cs : List Int) (hT : T.size ≤ 64) (d : Array Ent) (hp : d.toList.Perm (dk T cs T.size).toList) (hs : d.toList.Pairwise fun x y => lt y x = false) :
    ∃ s, IsSel T.size cs s ∧ bytesOf d.toList = tailsOf T s := by
  have hm : ∀ x ∈ d.toList, (isReal x = true ∧ x = real T cs x.idx ∧ x.idx < T.size) ∨ (isReal x = false ∧ x.ch.data.toList = []) := fun x hx => dk_mem (hp.subset hx)
  have hr : ∀ x ∈ d.toList.filter isReal, x = real T cs x.idx ∧ x.idx < T.size := by
    intro x hx
    obtain ⟨h1, h2⟩ := List.mem_filter.1 hx
    rcases hm x h1 with ⟨_, h3⟩ | ⟨h3, _⟩
    · exact h3
    · rw [h2] at h3; cases h3
  have hperm : ((d.toList.filter isReal).map (·.idx)).Perm (List.range T.size) := by
    rw [← dk_idx T cs hT]
    exact (hp.filter isReal).map _
  refine ⟨(d.toList.filter isReal).map (·.idx), ⟨hperm, ?_⟩, ?_⟩
  · have hnd : ((d.toList.filter isReal).map (·.idx)).Nodup := hperm.symm.nodup List.nodup_range
    rw [List.pairwise_map]
    have h1 := hs.filter isReal
    have h2 : (d.toList.filter isReal).Pairwise (fun x y => x.idx ≠ y.idx) := by
      have := hnd
      unfold List.Nodup at this
      rwa [List.pairwise_map] at this
    have h3 := h1.and h2
    refine List.Pairwise.imp_of_mem ?_ h3
    rintro x y hx hy ⟨hl, hne⟩
    obtain ⟨ex, _⟩ := hr x hx
    obtain ⟨ey, _⟩ := hr y hy
    have cx : x.cnt = cs.getD x.idx 0 := by conv => lhs; rw [ex]
                                            rfl
    have cy : y.cnt = cs.getD y.idx 0 := by conv => lhs; rw [ey]
                                            rfl
    simp only [lt, Bool.or_eq_false_iff, Bool.and_eq_false_iff, decide_eq_false_iff_not, beq_eq_false_iff_ne] at hl
    unfold before
    rw [← cx, ← cy]
    omega
  · rw [bytes_filter _ fun x hx h => by
      rcases hm x hx with ⟨h3, _⟩ | ⟨_, h3⟩
      · rw [h] at h3; cases h3
      · exact h3]
    exact bytes_real T cs _ hr

/-- from sort's own words -/
theorem sorted_of {d d' : Array Ent} (hd : d.size = 64) (hp : Go.Sort.PermIn 0 64 d d') (hs : Go.Sort.SortedIn lt 0 64 d') : d'.size = 64 ∧ d'.toList.Perm d.toList ∧ d'.toList.Pairwise fun x y => lt y x = false := by
  have hsz : d'.size = 64 := hp.1.trans hd
  refine ⟨hsz, ?_, ?_⟩
  · have := hp.2.2
    have e : ∀ a : Array Ent, a.size = 64 → a.extract 0 64 = a := by
      intro a ha
      rw [← ha]
      simp
    rwa [e d hd, e d' hsz] at this
  · rw [List.pairwise_iff_getElem]
    intro i j hi hj hij
    have hi' : i < d'.size := by simpa using hi
    have hj' : j < d'.size := by simpa using hj
    have := hs i j (Nat.zero_le _) hij (by omega)
    simpa [hi', hj'] using this

theorem tails_len {T : ByteArray} {cs : List Int} {s : List Nat} (h : IsSel T.size cs s) : (tailsOf T s).length = T.size := by
  unfold tailsOf
  rw [List.length_map, h.1.length_eq, List.length_range]
theorem range_map (l : List UInt8) : (List.range l.length).map (fun i => l.getD i 0) = l := by
  refine List.ext_getElem (by simp) fun i h1 h2 => ?_
  simp [h2]
theorem tails_perm {T : ByteArray} {cs : List Int} {s : List Nat} (h : IsSel T.size cs s) : (tailsOf T s).Perm T.data.toList := by
  have := h.1.map fun i => T.data.toList.getD i 0
  rw [← len_eq, range_map] at this
  exact this
theorem heads_perm {T : ByteArray} {cs : List Int} {s : List Nat} (h : IsSel T.size cs s) : (headsOf T s).Perm (T.data.toList.filter nond) := (tails_perm h).filter nond
end Go.Proofs.YtpmihkhmijndaaaDoor.srt
