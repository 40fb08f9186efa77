/- How the argument is read under the bulk bound; the tables; the witness' world; what spec.isDigit and spec.IsNumbered answer; a map of bools. -/
import Derived.Test.YtaaeahadjfiofaaDoorRenAll
import Derived.Test.YtaaeahadjfiofaaDoorCards
import Derived.Test.YtaaeahadjfiofaaDoorTie
import Derived.LaidMore
import Derived.Stop.Joined
import Derived.Stop.LaidErr
import Derived.Deep.DeepHandedRow
import Derived.Laws.Strings2
import Derived.Laws.Strings3
namespace Go.Proofs.YtaaeahadjfiofaaDoor.ren
open Go.ChangeShapes Go.WideShapes Go.ChangeAt Go.RowKit Go.Lib

theorem own : ownKnob Tryd.prog.godebug = none := by kernel_rfl
theorem laidOut : laidOutB Tryd.prog = true := by kernel_rfl
theorem one_le {H : Type} (d : DataW H) : 1 ≤ Rows.uptoBulk d := by
  cases d with
  | lit l => cases l <;> simp [Rows.uptoBulk]
  | nil => simp [Rows.uptoBulk]
  | ptr d => simp [Rows.uptoBulk]
  | slice elems spare => simp [Rows.uptoBulk]
  | agg parts => simp [Rows.uptoBulk]
  | iface t d => simp [Rows.uptoBulk]
  | map entries => simp [Rows.uptoBulk]
  | held h => simp [Rows.uptoBulk]
theorem length_le {H : Type} (l : List (DataW H)) : l.length ≤ Rows.uptoBulkAll l := by
  induction l with
  | nil => simp [Rows.uptoBulkAll]
  | cons x r ih => have := one_le x; simp only [Rows.uptoBulkAll, List.length_cons]; omega
theorem part_le {H : Type} {d : DataW H} {l : List (DataW H)} (h : d ∈ l) : Rows.uptoBulk d ≤ Rows.uptoBulkAll l := by
  induction l with
  | nil => cases h
  | cons x r ih =>
    simp only [Rows.uptoBulkAll]
    cases List.mem_cons.1 h with
    | inl e => subst e; omega
    | inr e => have := ih e; omega

theorem open_rds {H : Type} {enc : TypeId × Value → H} {W : World} {r : Reach} {b0 : Nat} {v : Value} {d : DataW H} {p : List MemPlace} (hv : Value.okWide Tryd.prog W r b0 22 v)
    (h : DataW.Trod enc Tryd.prog W 0 (fun _ => true) true 22 v d p) (hlt : ∀ x ∈ p, x.block < W.heap.size) (hk : Rows.uptoBulk d ≤ 1048576) :
    ∃ A n c l, v = .slice A n c ∧ RdS W W.heap.size A n l ∧ n ≤ 1048576 ∧ ∀ s ∈ l, s.size ≤ 1048576 := by
  obtain ⟨A, n, c, rfl⟩ := okWide_slice Tryd.underlying22 hv
  obtain ⟨fuel, hf⟩ := h
  have hcs : (Value.slice A n c).cells.toList = [.slice A n c] := rfl
  rw [hcs] at hf
  rcases open_strings Tryd.underlying22 Tryd.underlying9 (by kernel_rfl) hf with ⟨h1, _⟩ | ⟨a, len, cap, ss, h1, _, hlc, _, hsl, hx, hc, _⟩
  · simp only [List.cons.injEq, Value.slice.injEq, and_true] at h1
    obtain ⟨rfl, rfl, rfl⟩ := h1
    exact ⟨none, 0, 0, [], rfl, ⟨rfl, by simp, fun h => absurd h (by omega)⟩, by omega, by simp⟩
  · simp only [List.cons.injEq, Value.slice.injEq, and_true] at h1
    obtain ⟨rfl, rfl, rfl⟩ := h1
    simp only [Prod.mk.injEq] at hx
    obtain ⟨rfl, rfl⟩ := hx
    simp only [if_true] at hsl
    have hb : Rows.uptoBulkAll (strs (H := H) (ss.take n)) ≤ 1048576 := by simp only [Rows.uptoBulk] at hk; omega
    have hlen : (ss.take n).length = n := by rw [List.length_take]; omega
    have hn : n ≤ 1048576 := by
      have := length_le (strs (H := H) (ss.take n))
      simp only [strs, List.length_map] at this
      simp only [strs] at hb
      omega
    have hsz : ∀ s ∈ ss.take n, s.size ≤ 1048576 := by
      intro s hs
      have := part_le (H := H) (d := .lit (.string s.data.toList)) (l := strs (ss.take n)) (by simp only [strs, List.mem_map]; exact ⟨s, hs, rfl⟩)
      simp only [Rows.uptoBulk] at this
      have e : s.data.toList.length = s.size := Array.length_toList
      omega
    refine ⟨some a, n, c, ss.take n, rfl, ⟨hlen, fun s hs => by have := hsz s hs; omega, fun hn0 => ⟨a, rfl, ?_, ?_⟩⟩, hn, hsz⟩
    · exact hlt (.cell a.block a.off) (MemPlace.mem_row.2 ⟨0, by omega, by simp⟩)
    · intro j s hs
      have hj : j < n := by have := (List.getElem?_eq_some_iff.1 hs).1; omega
      rw [hc j (by omega)]
      rw [List.getElem?_take_of_lt hj] at hs
      simp [hs]

theorem gPow : (Tryd.prog.globals[0]?).map (·.type) = some 46 := by kernel_rfl
theorem c64 : Tryd.prog.cellsOf 38 = 1 := by kernel_rfl
theorem c20 : Tryd.prog.cellsOf 46 = 20 := by kernel_rfl
theorem tab_of {W : World} (h : laidMetH Tryd.prog [("math/bits.deBruijn32tab", Rows.laid_math_bits_deBruijn32tab), ("math/bits.deBruijn64tab", Rows.laid_math_bits_deBruijn64tab), ("internal/strconv.uint64pow10", Rows.laid_internal_strconv_uint64pow10)] W) : Tab W := by
  rw [MakeChecks.laidMetH_plain _ _ _ (by kernel_rfl)] at h
  have h3 := laidMet.tail (laidMet.tail h)
  exact Lib.tabIs_of_head (rest := []) gTab gPow Tryd.underlying46 Tryd.underlying38 c64 c20 h3

theorem met (os : Os) (args : Array Value) : laidMetH Tryd.prog [("math/bits.deBruijn32tab", Rows.laid_math_bits_deBruijn32tab), ("math/bits.deBruijn64tab", Rows.laid_math_bits_deBruijn64tab), ("internal/strconv.uint64pow10", Rows.laid_internal_strconv_uint64pow10)] ((World.doorLaid Tryd.prog 400 os).forCall (fun _ _ => 0) ⟨#[], args, []⟩).memory :=
  laidMetH_of_parts3 (fuel := 8) (laidMet_of_run' 8 (by kernel_rfl) (by kernel_rfl)) (by kernel_rfl) (by kernel_rfl)

theorem rds_of_own {w' : World} {B : Nat} {v : Value} {n : Nat} {outs : List L} (h : w'.ownsRow B 9 1 v n (strV outs)) (hl : outs.length = n) (hs : ∀ s ∈ outs, s.length ≤ 2000000) :
    ∃ A c, v = .slice A n c ∧ RdS w' w'.heap.size A n (outs.map fun s => ⟨s.toArray⟩) := by
  have hsz : ∀ s ∈ (outs.map fun s => (⟨s.toArray⟩ : ByteArray)), s.size ≤ 2000000 := by
    intro s hx
    simp only [List.mem_map] at hx
    obtain ⟨t, ht, rfl⟩ := hx
    have := hs t ht
    show t.toArray.size ≤ _
    simpa using this
  rcases h.2 with ⟨rfl, rfl⟩ | ⟨g, cap, cur, rfl, hg, hh, _⟩
  · exact ⟨_, _, rfl, by simpa using hl, hsz, fun h => absurd h (by omega)⟩
  · refine ⟨_, _, rfl, by simpa using hl, hsz, fun _ => ⟨_, rfl, (Array.getElem?_eq_some_iff.1 hh).1, fun j s hx => ?_⟩⟩
    refine h.cells (g := g) rfl _ _ ?_
    simp only [strV, List.getElem?_map] at hx ⊢
    cases ho : outs[j]? with
    | none => rw [ho] at hx; cases hx
    | some t => rw [ho] at hx; simp at hx; subst hx; rfl
theorem outs_len {l : List ByteArray} {outs : List L} (h : Given (Ls l) outs) (hl : ∀ s ∈ l, s.size ≤ 1048576) : ∀ s ∈ outs, s.length ≤ 2000000 := by
  intro s hs
  obtain ⟨i, hi, rfl⟩ := List.getElem_of_mem hs
  obtain ⟨_, _, ds, _, hd, e⟩ := h.2 i hi
  have hil : i < l.length := by have := h.1; rw [ls_len] at this; omega
  have e1 : outs.getD i [] = outs[i] := by simp [hi]
  have e2 : (Ls l).getD i [] = l[i].data.toList := ls_at (List.getElem?_eq_getElem hil)
  rw [e1, e2] at e
  rw [e, List.length_append]
  have := hl _ (List.getElem_mem hil)
  have e3 : l[i].data.toList.length = l[i].size := Array.length_toList
  omega

theorem isDigit_yes (c : Nat) (h1 : 48 ≤ c) (h2 : c ≤ 57) (w : World) : Calls Tryd.prog 9 #[.int .u8 (c : Int)] w fun e w' => e = .returned (.bool true) ∧ w = w' := by
  go_enter Tryd.func9, Tryd.ntmps9
  go_wp2
  go_ret
  refine ⟨?_, rfl⟩
  show Ending.returned (.bool (decide ((c : Int) ≤ 57))) = _
  rw [decide_eq_true (by omega)]
theorem getD_eq (s : ByteArray) (i : Nat) (h : i < s.size) : s[i]'h = s.data.toList.getD i 0 := by
  have e : s.data.toList.length = s.size := Array.length_toList
  rw [List.getD_eq_getElem?_getD, List.getElem?_eq_getElem (by omega)]
  rfl

set_option maxHeartbeats 1000000 in
theorem numbered_any (asked : ByteArray) (ds : L) (ha : asked.size ≤ 2000000) (hd : ∀ c ∈ ds, Dig c) (hl : ds.length ≤ 20) (w : World) :
    Calls Tryd.prog 7 #[.string ⟨(asked.data.toList ++ ds).toArray⟩, .string asked] w fun e w' => e = .returned (.bool true) ∧ w = w' := by
  obtain ⟨s, hs⟩ : ∃ s : ByteArray, s = ⟨(asked.data.toList ++ ds).toArray⟩ := ⟨_, rfl⟩
  rw [← hs]
  have hsl : s.data.toList = asked.data.toList ++ ds := by rw [hs]
  have el : ∀ t : ByteArray, t.data.toList.length = t.size := fun t => Array.length_toList
  have hsz : s.size = asked.size + ds.length := by rw [← el s, hsl, List.length_append, el]
  have hle : asked.size ≤ s.size := by omega
  have hsx : s.size ≤ 2000020 := by omega
  have hex : s.extract 0 asked.size = asked := by
    refine bytes_inj ?_
    have e1 : (s.extract 0 asked.size).data.toList = s.data.toList.take asked.size := by
      simp [ByteArray.data_extract, Array.toList_extract, List.extract_eq_take_drop]
    rw [e1, hsl, List.take_append_of_le_length (by rw [el]; exact Nat.le_refl _), List.take_of_length_le (by rw [el]; exact Nat.le_refl _)]
  have hrun : ∀ w : World, (Instr.slice 9 (.string s) none (some (.int .i64 (asked.size : Int))) none).run Tryd.prog w = .ok (.string asked) w := by
    intro w
    rw [run_slice_string_to_if (P := Tryd.prog) w 9 s .i64 (asked.size : Int) Tryd.underlying9]
    rw [if_pos (by omega)]
    have e : ((asked.size : Nat) : Int).toNat = asked.size := by omega
    rw [e, hex]
  have HD := Lib.hid (show ∀ k (hk : k < s.size), asked.size ≤ k → 48 ≤ (s[k]'hk).toNat ∧ (s[k]'hk).toNat ≤ 57 by
    intro k hk hp
    rw [getD_eq, hsl, List.getD_eq_getElem?_getD, List.getElem?_append_right (by rw [el]; exact hp), el, List.getElem?_eq_getElem (by omega)]
    exact hd _ (List.getElem_mem _))
  have hb1 : decide (s.size < asked.size) = false := by simpa using hle
  have hb2 : decide ((s.size : Int) < (asked.size : Int)) = false := by simpa using hle
  clear hs hsl el hsz hex hd
  go_enter Tryd.func7, Tryd.ntmps7
  go_wp2_with fail
  go_loop [5] (fun i => ∃ k : Nat, asked.size ≤ k ∧ k ≤ s.size ∧ i = .int .i64 (k : Int)) (fun i => s.size - (RowKit.intOf i).toNat)
  case atStart => exact ⟨asked.size, Nat.le_refl _, hle, rfl⟩
  case round =>
    obtain ⟨k, hk0, hk, rfl⟩ := hrel
    by_cases hlt : k < s.size
    · obtain ⟨d1, d2⟩ := HD.out k hlt hk0
      go_wp2_with (go_at_call 9; refine (isDigit_yes _ d1 d2 _).mono ?_; rintro e w' ⟨rfl, rfl⟩)
      go_round
      case rel => exact ⟨k + 1, by omega, by omega, by go_num⟩
      case measure => simp [RowKit.intOf]; omega
    · go_wp2_with fail
      go_ret
      exact ⟨rfl, rfl⟩

/-! ### a map of bools -/
abbrev OwnB (w : World) (mb n : Nat) (D : DataW Unit) : Prop := w.ownsMap Tryd.prog 9 (plainElem Tryd.prog 4) mb n D
def Seen (D : DataW Unit) (U : List L) : Prop := Maps.IsMap D ∧ ∀ k : L, D.atKey (.string k) (.lit (.bool false)) = .lit (.bool (decide (k ∈ U)))
theorem seen_nil : Seen (.map []) [] := ⟨Maps.isMap_empty, fun k => by simp [DataW.atKey]⟩
theorem Seen.put {D : DataW Unit} {U : List L} (h : Seen D U) (s : L) : Seen (D.put (.string s) (.lit (.bool true))) (U ++ [s]) := by
  refine ⟨h.1.put _ _, fun k => ?_⟩
  by_cases e : k = s
  · subst e
    rw [Maps.atKey_put_same h.1 (by trivial)]
    simp
  · rw [Maps.atKey_put_other (by simpa using e), h.2 k]
    simp [e]
theorem zero4 (w : World) : (zeroValue 4).run Tryd.prog w = .ok (.bool false) w := by kernel_rfl
theorem lookB {w : World} {mb n : Nat} {D : DataW Unit} {U : List L} (h : OwnB w mb n D) (hU : Seen D U) (s : ByteArray) (hs : s.size ≤ 9223372036854775807) :
    (Instr.lookup 24 (.map (some mb)) (.string s) false).run Tryd.prog w = .ok (.bool (decide (s.data.toList ∈ U))) w := by
  obtain ⟨v, ps, hrun, hv⟩ := h.lookup law Tryd.underlying24 (zero4 w) (plainElem_bool Tryd.underlying4 false) (key_of s hs)
  rw [hU.2] at hv
  have : v = .bool (decide (s.data.toList ∈ U)) := by
    unfold plainElem at hv
    rw [Tryd.underlying4] at hv
    cases v <;> simp at hv
    exact congrArg _ hv.1
  rw [hrun, this]
end Go.Proofs.YtaaeahadjfiofaaDoor.ren
