/- What impl.minifier, impl.Name, spec.Head, spec.Tail, spec.Name, spec.index and spec.IsFrom compute. -/
import Derived.Test.YtpmihkhmijndaaaDoorNameWalk
import Derived.Laws.IdiomStrings
import Derived.Maps.AppendAt
import Derived.Deep.QuietTactic
import Derived.BigQuiet
namespace Go.Proofs.YtpmihkhmijndaaaDoor.nm
open Go.ChangeShapes Go.WideShapes Go.ChangeAt Go.RowKit

/-- The two package variables, as their initialisers lay them. -/
def gOf (css : Bool) : Nat := match css with
  | true => 0
  | false => 1
def Laid (css : Bool) (w : World) : Prop := w.cell? ⟨gOf css, 0, none⟩ = some (.string (headB css)) ∧ w.cell? ⟨gOf css, 1, none⟩ = some (.string (tailB css))
theorem Laid.lt {css : Bool} {w : World} (h : Laid css w) : gOf css < w.heap.size := by
  rcases Nat.lt_or_ge (gOf css) w.heap.size with hlt | hge
  · exact hlt
  · have := h.1
    unfold World.cell? at this
    rw [Array.getElem?_eq_none hge] at this
    cases this
theorem Laid.below {css : Bool} {w w' : World} {B : Nat} (h : Laid css w) (hb : Below B w w') (hB : w.heap.size ≤ B) : Laid css w' := by
  have hl := h.lt
  exact ⟨(hb.cell (p := ⟨gOf css, 0, none⟩) (show gOf css < B by omega)).trans h.1, (hb.cell (p := ⟨gOf css, 1, none⟩) (show gOf css < B by omega)).trans h.2⟩

theorem minifier_any (css : Bool) (w : World) (hL : Laid css w) :
    Calls Tryd.prog 16 #[.bool css] w fun e w' => e = .returned (.agg #[.string (headB css), .string (tailB css)]) ∧ Below w.heap.size w w' := by
  have hlt := hL.lt
  obtain ⟨h0, h1⟩ := hL
  cases css with
  | true =>
    generalize headB true = H at *
    generalize tailB true = T at *
    simp only [gOf] at h0 h1 hlt
    go_enter Tryd.func16, Tryd.ntmps16
    go_wp2
    exact bodyPost_ret (v := .agg #[.string H, .string T]) (by simp [results, Tryd.results16, go_sem]) rfl ⟨rfl, (Below.refl _ _).alloc (Nat.le_refl _) _⟩
  | false =>
    generalize headB false = H at *
    generalize tailB false = T at *
    simp only [gOf] at h0 h1 hlt
    go_enter Tryd.func16, Tryd.ntmps16
    go_wp2
    exact bodyPost_ret (v := .agg #[.string H, .string T]) (by simp [results, Tryd.results16, go_sem]) rfl ⟨rfl, (Below.refl _ _).alloc (Nat.le_refl _) _⟩

theorem sizes (css : Bool) : 0 < (headB css).size ∧ (headB css).size ≤ 1000 ∧ 2 ≤ (tailB css).size ∧ (tailB css).size ≤ 1000 := by cases css <;> decide

theorem implName_any (css : Bool) (n : Nat) (hn : n ≤ 9223372036854775807) (w : World) (hL : Laid css w) :
    Calls Tryd.prog 14 #[.bool css, .int .i64 (n : Int)] w fun e w' => e = .returned (.string ⟨(name (headL css) (tailL css) n).toArray⟩) ∧ Below w.heap.size w w' := by
  have HM := Lib.hid (minifier_any css w hL)
  obtain ⟨h1, h2, h3, h4⟩ := sizes css
  have HN := Lib.hid (fun W => number_any (headB css) (tailB css) h1 h2 h3 h4 n hn W)
  change Hid (∀ W, Calls Tryd.prog 19 #[.agg #[.string (headB css), .string (tailB css)], .int .i64 (n : Int)] W fun e w' => e = .returned (.string ⟨(name (headL css) (tailL css) n).toArray⟩) ∧ Below W.heap.size W w') at HN
  clear hL h1 h2 h3 h4
  generalize headB css = H at *
  generalize tailB css = T at *
  generalize name (headL css) (tailL css) n = R at *
  go_enter Tryd.func14, Tryd.ntmps14
  go_wp2_with fail
  refine HM.out.mono ?_
  rintro e w1 ⟨rfl, hb1⟩
  go_wp2_with fail
  refine (HN.out _).mono ?_
  rintro e w2 ⟨rfl, hb2⟩
  go_wp2_with fail
  go_ret
  exact ⟨rfl, hb1.trans (hb2.mono hb1.size)⟩

theorem head_any (css : Bool) (w : World) : Calls Tryd.prog 13 #[.bool css] w fun e w' => e = .returned (.string (headB css)) ∧ w = w' := by
  cases css <;> (go_enter Tryd.func13, Tryd.ntmps13; go_wp2; go_ret; exact ⟨rfl, rfl⟩)
theorem tail_any (css : Bool) (w : World) : Calls Tryd.prog 7 #[.bool css] w fun e w' => e = .returned (.string (tailB css)) ∧ w = w' := by
  cases css <;> (go_enter Tryd.func7, Tryd.ntmps7; go_wp2; go_ret; exact ⟨rfl, rfl⟩)

theorem conv {w : World} {B : Nat} {v : Value} {out : List UInt8} (h : w.ownsRow B 5 1 v out.length (Lib.byteCells out)) (hne : out ≠ []) :
    (convert 37 9 v).run Tryd.prog w = .ok (.string ⟨out.toArray⟩) w := by
  rcases h.2 with ⟨rfl, h0⟩ | ⟨g, cap, cur, rfl, h2, h3, h4⟩
  · exact absurd (List.length_eq_zero_iff.1 h0) hne
  · refine run_convert_bytes_back w 37 9 5 ⟨g, 0, none⟩ cap out Tryd.underlying37 Tryd.underlying5 Tryd.underlying9 ?_
    intro j hj
    exact h.cells (g := g) rfl j _ (by simp [Lib.byteCells, List.getElem?_eq_getElem hj])
theorem getD_eq (s : ByteArray) (i : Nat) (h : i < s.size) : s[i]'h = s.data.toList.getD i 0 := by
  rw [List.getD_eq_getElem?_getD, List.getElem?_eq_getElem (by rw [len_eq]; exact h)]
  rfl
def RelM (H T : ByteArray) (n : Nat) (w : World) (i v : Value) (wr : World) : Prop :=
  ∃ (m : Nat) (acc : List UInt8), m ≤ n ∧ i = .int .i64 (m : Int) ∧ acc ≠ [] ∧ acc ++ tl T.data.toList m = name H.data.toList T.data.toList n ∧ wr.ownsRow w.heap.size 5 1 v acc.length (Lib.byteCells acc) ∧ Below w.heap.size w wr
theorem own_one (w : World) (c : UInt8) : (w.alloc (.cells #[.int .u8 (c.toNat : Int)] 5)).ownsRow w.heap.size 5 1 (.slice (some ⟨w.heap.size, 0, none⟩) 1 1) 1 (Lib.byteCells [c]) :=
  ⟨rfl, Or.inr ⟨w.heap.size, 1, _, rfl, Nat.le_refl _, heap_alloc_new w _, Nat.le_refl _, by decide, rfl, rfl⟩⟩
theorem byte_cell (w : World) (c : Value) : ∀ j u, [c][j]? = some u → (w.alloc (.cells #[c] 5)).cell? ((⟨w.heap.size, 0, none⟩ : Addr).add j) = some u := by
  intro j u hj
  match j, hj with
  | 0, hj => simp at hj; subst hj; simp [Addr.add]

set_option maxHeartbeats 1000000 in
theorem specName_any (H T : ByteArray) (h1 : 0 < H.size) (h2 : H.size ≤ 1000) (h3 : 2 ≤ T.size) (h4 : T.size ≤ 1000) (n : Nat) (hn : n ≤ 9223372036854775807) (w : World) :
    Calls Tryd.prog 11 #[.string H, .string T, .int .i64 (n : Int)] w fun e w' => e = .returned (.string ⟨(name H.data.toList T.data.toList n).toArray⟩) ∧ Below w.heap.size w w' := by
  obtain ⟨i0, hi, hz0, hz1, hz2⟩ := info_parts bld.info5
  have hj0 : n % H.size < H.size := Nat.mod_lt _ h1
  have hq0 : n / H.size ≤ n := Nat.div_le_self _ _
  have HN := Lib.hid (show [H.data.toList.getD (n % H.size) 0] ++ tl T.data.toList (n / H.size) = name H.data.toList T.data.toList n by unfold name; rw [len_eq]; rfl)
  have hj : (n : Int) % (H.size : Int) = ((n % H.size : Nat) : Int) := (Int.natCast_emod n H.size).symm
  have hq : (n : Int) / (H.size : Int) = ((n / H.size : Nat) : Int) := (Int.natCast_ediv n H.size).symm
  have HG := Lib.hid (getD_eq H (n % H.size) hj0)
  have HLN := Lib.hid (name_len H.data.toList T.data.toList (by rw [len_eq]; exact h3) n (by omega))
  generalize n % H.size = j at *
  generalize n / H.size = q at *
  go_enter Tryd.func11, Tryd.ntmps11
  go_wp2
  clear hq hj
  go_loopw [2, 7] (fun i v wr => RelM H T n w i v wr) (fun i _ _ => (intOf i).toNat)
  case atStart => exact ⟨q, _, hq0, rfl, by simp, HN.out, by rw [← HG.out]; exact own_one w _, (Below.refl _ _).alloc (Nat.le_refl _) _⟩
  case round =>
    obtain ⟨m, acc, hm, rfl, hne, hacc, hown, hbl⟩ := hrel
    clear HN hq0 HG
    have hal : acc.length ≤ 64 := by
      have := congrArg List.length hacc
      rw [List.length_append] at this
      have := HLN.out
      omega
    have hsz := hbl.size
    rcases m with _ | k
    · rw [tl_zero, List.append_nil] at hacc
      have HA := Lib.hid hacc
      have hcv := conv hown hne
      clear hacc
      go_wp2
      go_ret
      exact ⟨by rw [← HA.out]; rfl, hbl⟩
    · rw [tl_succ, len_eq] at hacc
      have hk0 : k % T.size < T.size := Nat.mod_lt _ (by omega)
      have hq0 : k / T.size ≤ k := Nat.div_le_self _ _
      have hj : (k : Int) % (T.size : Int) = ((k % T.size : Nat) : Int) := (Int.natCast_emod k T.size).symm
      have hq : (k : Int) / (T.size : Int) = ((k / T.size : Nat) : Int) := (Int.natCast_ediv k T.size).symm
      have HG := Lib.hid (getD_eq T (k % T.size) hk0)
      generalize k % T.size = j2 at *
      generalize k / T.size = q2 at *
      have HA := Lib.hid (show (acc ++ [T.data.toList.getD j2 0]) ++ tl T.data.toList q2 = name H.data.toList T.data.toList n by rw [List.append_assoc]; exact hacc)
      clear hacc hne
      go_wp2_with (at_builtin; refine wpList_append_own _ rfl (.tmp 27) (.tmp 34) 37 rfl w.heap.size 5 i0 (.int .u8 0) 1 1 Tryd.underlying37 hi hz0 hz1 hz2 rfl (by decide) _ acc.length (Lib.byteCells acc) rfl (hown.alloc _) ⟨wr.heap.size, 0, none⟩ 1 1 [.int .u8 ((T[j2]'hk0).toNat : Int)] rfl rfl (byte_cell _ _) (by intro u hu; simp at hu; subst hu; rfl) (by unfold maxLen; omega) (by omega) (by simp; omega) ?_; intro v2 w2 hown2 hgrow2 _)
      have hbw2 : Below w.heap.size w w2 := (hbl.alloc hsz _).grown hgrow2 (by simp; omega) fun j e => (hown.lt j e).1
      clear hq hj
      go_roundw
      case rel =>
        refine ⟨q2, _, by omega, rfl, by simp, HA.out, ?_, hbw2⟩
        rw [← HG.out, Lib.byteCells_append, List.length_append]
        exact hown2
      case measure => simp [intOf]; omega
end Go.Proofs.YtpmihkhmijndaaaDoor.nm
