/- What NumberToMinifiedName computes: the name of the number over the two strings. -/
import Derived.Test.YtpmihkhmijndaaaDoorBld
import Derived.Test.YtpmihkhmijndaaaDoorNamePlain
import Derived.Laws.Strings2
namespace Go.Proofs.YtpmihkhmijndaaaDoor.nm
open Go.ChangeShapes Go.WideShapes Go.ChangeAt Go.RowKit
theorem len_eq (s : ByteArray) : s.data.toList.length = s.size := Array.length_toList
def RelN (H T : ByteArray) (n : Nat) (w : World) (i : Value) (wr : World) : Prop :=
  ∃ (m : Nat) (acc : List UInt8), m ≤ n ∧ i = .int .i64 (m : Int) ∧ acc ++ tl T.data.toList m = name H.data.toList T.data.toList n ∧ Lib.IsBuilderF 58 5 (w.heap.size + 1) (w.heap.size + 1) (Lib.byteCells acc) wr ∧
    wr.heap[w.heap.size]? = some (.cells #[.string H, .string T] 43 (0, 0)) ∧ Below w.heap.size w wr
theorem cut_one (s : ByteArray) (j : Nat) (h : j < s.size) : Lib.strCells (s.extract j (j + 1)) = Lib.byteCells [s.data.toList.getD j 0] := by
  rw [Lib.strCells_eq]
  congr 1
  have hl := len_eq s
  have e : (s.extract j (j + 1)).data.toList = (s.data.toList.take (j + 1)).drop j := by
    simp [ByteArray.data_extract, Array.toList_extract, List.extract_eq_take_drop, List.drop_take]
  rw [e, List.take_succ_eq_append_getElem (by omega), List.drop_append_of_le_length (by rw [List.length_take]; omega), List.drop_of_length_le (by rw [List.length_take]; omega), List.nil_append, List.getD_eq_getElem?_getD, List.getElem?_eq_getElem (by omega)]
  rfl
theorem size_one (s : ByteArray) (j : Nat) (h : j < s.size) : (s.extract j (j + 1)).size = 1 := by rw [ByteArray.size_extract]; omega

theorem slice_one (s : ByteArray) (j : Nat) (h : j < s.size) (w : World) : (Instr.slice 9 (.string s) (some (.int .i64 (j : Int))) (some (.int .i64 ((j : Int) + 1))) none).run Tryd.prog w = .ok (.string (s.extract j (j + 1))) w := by
  have := run_slice_string (P := Tryd.prog) w 9 s .i64 .i64 (j : Int) ((j : Int) + 1) Tryd.underlying9 (by omega) (by omega) (by omega)
  have e : ((j : Int) + 1).toNat = j + 1 := by omega
  rw [e] at this
  exact this
theorem fresh (w : World) (o : Obj) : Lib.IsBuilderF 58 5 (w.heap.size + 1) (w.heap.size + 1) [] ((w.alloc o).alloc (.cells #[.pointer none, .slice none 0 0] 58)) := by
  refine Or.inl ⟨Nat.le_refl _, .slice none 0 0, ?_, ⟨rfl, Or.inl ⟨rfl, rfl⟩⟩, by simp [Value.ownBlock]⟩
  have := heap_alloc_new (w.alloc o) (.cells #[.pointer none, .slice none 0 0] 58)
  simpa using this
theorem boxed (w : World) (o o' : Obj) : ((w.alloc o).alloc o').heap[w.heap.size]? = some o := by
  rw [Below.heap_alloc (w.alloc o) o' w.heap.size (by simp)]
  exact heap_alloc_new w o
theorem kept {w w1 : World} {b k : Nat} {cs : Array Value} {t : TypeId} (h : w.heap[k]? = some (.cells cs t (0, 0))) (ho : Lib.OthersKept 5 (some b) w w1) (hk : k ≠ b) (ht : t ≠ 5) : w1.heap[k]? = some (.cells cs t (0, 0)) := by
  exact ho k _ h (by simpa using hk) (by intro c fz e; cases e; exact ht rfl)

set_option maxHeartbeats 1000000 in
theorem number_any (H T : ByteArray) (h1 : 0 < H.size) (h2 : H.size ≤ 1000) (h3 : 2 ≤ T.size) (h4 : T.size ≤ 1000) (n : Nat) (hn : n ≤ 9223372036854775807) (w : World) :
    Calls Tryd.prog 19 #[.agg #[.string H, .string T], .int .i64 (n : Int)] w fun e w' => e = .returned (.string ⟨(name H.data.toList T.data.toList n).toArray⟩) ∧ Below w.heap.size w w' := by
  have hj0 : n % H.size < H.size := Nat.mod_lt _ h1
  have hq0 : n / H.size ≤ n := Nat.div_le_self _ _
  have HN := Lib.hid (show [H.data.toList.getD (n % H.size) 0] ++ tl T.data.toList (n / H.size) = name H.data.toList T.data.toList n by unfold name; rw [len_eq]; rfl)
  have hj : (n : Int) % (H.size : Int) = ((n % H.size : Nat) : Int) := (Int.natCast_emod n H.size).symm
  have hq : (n : Int) / (H.size : Int) = ((n / H.size : Nat) : Int) := (Int.natCast_ediv n H.size).symm
  have HC := Lib.hid (cut_one H (n % H.size) hj0)
  have HS := Lib.hid (size_one H (n % H.size) hj0)
  have HLN := Lib.hid (name_len H.data.toList T.data.toList (by rw [len_eq]; exact h3) n (by omega))
  generalize n % H.size = j at *
  generalize n / H.size = q at *
  have hsl := slice_one H j hj0
  go_enter Tryd.func19, Tryd.ntmps19
  go_wp2_with fail
  refine (bld.writeString (w.heap.size + 1) (w.heap.size + 1) [] _ _ (fresh w _) (by rw [HS.out]; decide) (by simp)).mono ?_
  rintro e w1 ⟨rfl, hb, hbw, hk⟩
  rw [HC.out, List.nil_append] at hb
  have hx := kept (boxed w (.cells #[.string H, .string T] 43) (.cells #[.pointer none, .slice none 0 0] 58)) hk (by omega) (by decide)
  have hbw1 : Below w.heap.size w w1 := (((Below.refl _ w).alloc (Nat.le_refl _) _).alloc (by simp) _).trans (hbw.mono (by omega))
  clear hbw hk HC HS hj hsl
  go_wp2_with fail
  clear hq
  go_loopw [1] (fun i wr => RelN H T n w i wr) (fun i _ => (intOf i).toNat)
  case atStart => exact ⟨q, _, hq0, rfl, HN.out, Or.inr hb, hx, hbw1⟩
  case round =>
    obtain ⟨m, acc, hm, rfl, hacc, hbd, hbx, hbl⟩ := hrel
    clear hb hx hbw1 HN hq0 hj0
    have hal : acc.length ≤ 64 := by
      have := congrArg List.length hacc
      rw [List.length_append] at this
      have := HLN.out
      omega
    have hsz : w.heap.size + 1 ≤ wr.heap.size := by
      rcases hbd with h | h
      · have := h.lt; omega
      · have := h.lt; omega
    rcases m with _ | k
    · rw [tl_zero, List.append_nil] at hacc
      have HA := Lib.hid hacc
      clear hacc
      go_wp2_with fail
      refine (Tryd.Builder_String_any_k (w.heap.size + 1) (w.heap.size + 1) acc _ hbd hsz).mono ?_
      rintro e w2 ⟨rfl, _, hb2, _⟩
      rw [HA.out]
      go_wp2_with fail
      go_ret
      exact ⟨rfl, hbl.trans (hb2.mono (by omega))⟩
    · rw [tl_succ, len_eq] at hacc
      have hj0 : k % T.size < T.size := Nat.mod_lt _ (by omega)
      have hq0 : k / T.size ≤ k := Nat.div_le_self _ _
      have hj : (k : Int) % (T.size : Int) = ((k % T.size : Nat) : Int) := (Int.natCast_emod k T.size).symm
      have hq : (k : Int) / (T.size : Int) = ((k / T.size : Nat) : Int) := (Int.natCast_ediv k T.size).symm
      have HC := Lib.hid (cut_one T (k % T.size) hj0)
      have HS := Lib.hid (size_one T (k % T.size) hj0)
      generalize k % T.size = j2 at *
      generalize k / T.size = q2 at *
      have hsl := slice_one T j2 hj0
      have HA := Lib.hid (show (acc ++ [T.data.toList.getD j2 0]) ++ tl T.data.toList q2 = name H.data.toList T.data.toList n by rw [List.append_assoc]; exact hacc)
      have hx0 : wr.cell? ⟨w.heap.size, 1, none⟩ = some (.string T) := by rw [Lib.cell_of_heap hbx]; rfl
      have HBX := Lib.hid hbx
      clear hacc hbx
      go_wp2_with fail
      refine (bld.writeString (w.heap.size + 1) (w.heap.size + 1) (Lib.byteCells acc) _ _ hbd (by rw [HS.out, Lib.byteCells_length]; omega) hsz).mono ?_
      rintro e w2 ⟨rfl, hb2, hbw2, hk2⟩
      rw [HC.out, ← Lib.byteCells_append] at hb2
      have hx2 := kept HBX.out hk2 (by omega) (by decide)
      clear hk2 HC HS hj hx0 hbd hsl
      go_wp2_with fail
      clear hq
      go_roundw
      case rel => exact ⟨q2, _, by omega, rfl, HA.out, Or.inr hb2, hx2, hbl.trans (hbw2.mono (by omega))⟩
      case measure => simp [intOf]; omega
end Go.Proofs.YtpmihkhmijndaaaDoor.nm
