/- The plain law of the names of numbers: the name of n over a head and a tail; unlike numbers have unlike names; a greater number has no shorter name. No program in this text. -/
namespace Go.Proofs.YtpmihkhmijndaaaDoor.nm

def tl (T : List UInt8) (m : Nat) : List UInt8 :=
  if h : m = 0 then [] else T.getD ((m - 1) % T.length) 0 :: tl T ((m - 1) / T.length)
termination_by m
decreasing_by
  have := Nat.div_le_self (m - 1) T.length
  omega
def name (H T : List UInt8) (n : Nat) : List UInt8 := H.getD (n % H.length) 0 :: tl T (n / H.length)

theorem tl_zero (T : List UInt8) : tl T 0 = [] := by rw [tl]; simp
theorem tl_pos (T : List UInt8) (m : Nat) (h : 0 < m) : tl T m = T.getD ((m - 1) % T.length) 0 :: tl T ((m - 1) / T.length) := by
  rw [tl, dif_neg (by omega)]
theorem tl_succ (T : List UInt8) (m : Nat) : tl T (m + 1) = T.getD (m % T.length) 0 :: tl T (m / T.length) := by
  rw [tl_pos T (m + 1) (by omega)]; rfl

def Apart (T : List UInt8) : Prop := ∀ i j, i < T.length → j < T.length → T.getD i 0 = T.getD j 0 → i = j

theorem tl_inj (T : List UInt8) (h0 : 0 < T.length) (hT : Apart T) (m : Nat) : ∀ k, tl T m = tl T k → m = k := by
  induction m using Nat.strongRecOn with
  | _ m ih =>
    intro k he
    rcases m with _ | m
    · rcases k with _ | k
      · rfl
      · rw [tl_zero, tl_succ] at he; cases he
    · rcases k with _ | k
      · rw [tl_zero, tl_succ] at he; cases he
      · rw [tl_succ, tl_succ] at he
        injection he with h1 h2
        have a := hT _ _ (Nat.mod_lt m h0) (Nat.mod_lt k h0) h1
        have b := ih (m / T.length) (Nat.lt_succ_of_le (Nat.div_le_self _ _)) _ h2
        have c := Nat.div_add_mod m T.length
        have d := Nat.div_add_mod k T.length
        rw [← a, ← b] at d
        omega

theorem name_inj (H T : List UInt8) (hH : 0 < H.length) (hT : 0 < T.length) (aH : Apart H) (aT : Apart T) (n k : Nat) (h : name H T n = name H T k) : n = k := by
  unfold name at h
  injection h with h1 h2
  have a := aH _ _ (Nat.mod_lt n hH) (Nat.mod_lt k hH) h1
  have b := tl_inj T hT aT _ _ h2
  have c := Nat.div_add_mod n H.length
  have d := Nat.div_add_mod k H.length
  rw [← a, ← b] at d
  omega

theorem tl_len_mono (T : List UInt8) (m : Nat) : ∀ k, m ≤ k → (tl T m).length ≤ (tl T k).length := by
  induction m using Nat.strongRecOn with
  | _ m ih =>
    intro k he
    rcases m with _ | m
    · rw [tl_zero]; exact Nat.zero_le _
    · rcases k with _ | k
      · omega
      · rw [tl_succ, tl_succ, List.length_cons, List.length_cons]
        have := ih (m / T.length) (Nat.lt_succ_of_le (Nat.div_le_self _ _)) (k / T.length) (Nat.div_le_div_right (by omega))
        omega

theorem name_len_mono (H T : List UInt8) (n k : Nat) (h : n ≤ k) : (name H T n).length ≤ (name H T k).length := by
  unfold name
  rw [List.length_cons, List.length_cons]
  have := tl_len_mono T (n / H.length) (k / H.length) (Nat.div_le_div_right h)
  omega

theorem tl_len_of (T U : List UInt8) (h : T.length = U.length) (m : Nat) : (tl T m).length = (tl U m).length := by
  induction m using Nat.strongRecOn with
  | _ m ih =>
    rcases m with _ | m
    · rw [tl_zero, tl_zero]
    · rw [tl_succ, tl_succ, List.length_cons, List.length_cons, h, ih (m / U.length) (Nat.lt_succ_of_le (Nat.div_le_self _ _))]

theorem name_len_of (H T H' T' : List UInt8) (h : H.length = H'.length) (h' : T.length = T'.length) (n : Nat) : (name H T n).length = (name H' T' n).length := by
  unfold name
  rw [List.length_cons, List.length_cons, h, tl_len_of T T' h']

theorem tl_len (T : List UInt8) (h2 : 2 ≤ T.length) (k : Nat) : ∀ m, m < 2 ^ k → (tl T m).length ≤ k := by
  induction k with
  | zero => intro m h; obtain rfl : m = 0 := by omega
            rw [tl_zero]; exact Nat.le_refl _
  | succ k ih =>
    intro m h
    rcases m with _ | m
    · rw [tl_zero]; exact Nat.zero_le _
    · rw [tl_succ, List.length_cons]
      have h1 : m / T.length ≤ m / 2 := Nat.div_le_div_left h2 (by omega)
      have h3 : m / T.length < 2 ^ k := by rw [Nat.pow_succ] at h; omega
      have := ih _ h3
      omega

theorem name_len (H T : List UInt8) (h2 : 2 ≤ T.length) (n : Nat) (h : n < 9223372036854775808) : (name H T n).length ≤ 64 := by
  unfold name
  rw [List.length_cons]
  have := tl_len T h2 63 (n / H.length) (by have := Nat.div_le_self n H.length; have e : 2 ^ 63 = 9223372036854775808 := by decide
                                            omega)
  omega

theorem name_ne (H T : List UInt8) (n : Nat) : name H T n ≠ [] := by unfold name; simp

/-- all bytes behind the first are of T. -/
theorem tl_mem (T : List UInt8) (h0 : 0 < T.length) (m : Nat) : ∀ c ∈ tl T m, c ∈ T := by
  induction m using Nat.strongRecOn with
  | _ m ih =>
    intro c hc
    rcases m with _ | m
    · rw [tl_zero] at hc; cases hc
    · rw [tl_succ] at hc
      rcases List.mem_cons.1 hc with rfl | hc
      · rw [List.getD_eq_getElem?_getD, List.getElem?_eq_getElem (Nat.mod_lt _ h0)]
        exact List.getElem_mem _
      · exact ih _ (Nat.lt_succ_of_le (Nat.div_le_self _ _)) c hc
theorem getD_mem (T : List UInt8) (i : Nat) (h : i < T.length) : T.getD i 0 ∈ T := by
  rw [List.getD_eq_getElem?_getD, List.getElem?_eq_getElem h]
  exact List.getElem_mem _

def lettersL : List UInt8 := [97, 98, 99, 100, 101, 102, 103, 104, 105, 106, 107, 108, 109, 110, 111, 112, 113, 114, 115, 116, 117, 118, 119, 120, 121, 122, 65, 66, 67, 68, 69, 70, 71, 72, 73, 74, 75, 76, 77, 78, 79, 80, 81, 82, 83, 84, 85, 86, 87, 88, 89, 90]
def digitsL : List UInt8 := [48, 49, 50, 51, 52, 53, 54, 55, 56, 57]
def headB (css : Bool) : ByteArray := match css with
  | true => ⟨#[97, 98, 99, 100, 101, 102, 103, 104, 105, 106, 107, 108, 109, 110, 111, 112, 113, 114, 115, 116, 117, 118, 119, 120, 121, 122, 65, 66, 67, 68, 69, 70, 71, 72, 73, 74, 75, 76, 77, 78, 79, 80, 81, 82, 83, 84, 85, 86, 87, 88, 89, 90, 95]⟩
  | false => ⟨#[97, 98, 99, 100, 101, 102, 103, 104, 105, 106, 107, 108, 109, 110, 111, 112, 113, 114, 115, 116, 117, 118, 119, 120, 121, 122, 65, 66, 67, 68, 69, 70, 71, 72, 73, 74, 75, 76, 77, 78, 79, 80, 81, 82, 83, 84, 85, 86, 87, 88, 89, 90, 95, 36]⟩
def tailB (css : Bool) : ByteArray := match css with
  | true => ⟨#[97, 98, 99, 100, 101, 102, 103, 104, 105, 106, 107, 108, 109, 110, 111, 112, 113, 114, 115, 116, 117, 118, 119, 120, 121, 122, 65, 66, 67, 68, 69, 70, 71, 72, 73, 74, 75, 76, 77, 78, 79, 80, 81, 82, 83, 84, 85, 86, 87, 88, 89, 90, 48, 49, 50, 51, 52, 53, 54, 55, 56, 57, 95]⟩
  | false => ⟨#[97, 98, 99, 100, 101, 102, 103, 104, 105, 106, 107, 108, 109, 110, 111, 112, 113, 114, 115, 116, 117, 118, 119, 120, 121, 122, 65, 66, 67, 68, 69, 70, 71, 72, 73, 74, 75, 76, 77, 78, 79, 80, 81, 82, 83, 84, 85, 86, 87, 88, 89, 90, 48, 49, 50, 51, 52, 53, 54, 55, 56, 57, 95, 36]⟩
def headL (css : Bool) : List UInt8 := (headB css).data.toList
def tailL (css : Bool) : List UInt8 := (tailB css).data.toList

theorem apart_of (T : List UInt8) (h : ∀ i : Fin T.length, ∀ j : Fin T.length, T.getD i.1 0 = T.getD j.1 0 → i.1 = j.1) : Apart T := fun i j hi hj e => h ⟨i, hi⟩ ⟨j, hj⟩ e
theorem head_apart (css : Bool) : Apart (headL css) := by
  cases css <;> exact apart_of _ (by decide +kernel)
theorem tail_apart (css : Bool) : Apart (tailL css) := by
  cases css <;> exact apart_of _ (by decide +kernel)
theorem head_len (css : Bool) : (headL css).length = if css then 53 else 54 := by cases css <;> rfl
theorem tail_len (css : Bool) : (tailL css).length = if css then 63 else 64 := by cases css <;> rfl
theorem head_size (css : Bool) : (headB css).size = if css then 53 else 54 := by cases css <;> rfl
theorem tail_size (css : Bool) : (tailB css).size = if css then 63 else 64 := by cases css <;> rfl
end Go.Proofs.YtpmihkhmijndaaaDoor.nm
