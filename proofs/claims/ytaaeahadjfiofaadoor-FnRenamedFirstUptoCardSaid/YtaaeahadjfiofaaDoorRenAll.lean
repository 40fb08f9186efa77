/- What impl.Renamed computes; how a slice of strings that came in is read. -/
import Derived.Test.YtaaeahadjfiofaaDoorRen
import Derived.SliceStrings
import Derived.Maps.AppendAt
import Derived.Carry
namespace Go.Proofs.YtaaeahadjfiofaaDoor.ren
open Go.ChangeShapes Go.WideShapes Go.ChangeAt Go.RowKit Go.Lib

theorem block_of_add (a : Addr) (n : Nat) : (a.add n).block = a.block := by unfold Addr.add; split <;> rfl
/-- A slice of strings, nil too. -/
def RdS (w : World) (B : Nat) (A : Option Addr) (n : Nat) (l : List ByteArray) : Prop :=
  l.length = n ∧ (∀ s ∈ l, s.size ≤ 2000000) ∧ (0 < n → ∃ ad, A = some ad ∧ ad.block < B ∧ ∀ j s, l[j]? = some s → w.cell? (ad.add j) = some (.string s))
theorem RdS.below {w w' : World} {B : Nat} {A : Option Addr} {n : Nat} {l : List ByteArray} (h : RdS w B A n l) (hb : Below B w w') : RdS w' B A n l :=
  ⟨h.1, h.2.1, fun hn => by
    obtain ⟨ad, e, hB, hc⟩ := h.2.2 hn
    exact ⟨ad, e, hB, fun j s hs => (hb.cell (by rw [block_of_add]; exact hB)).trans (hc j s hs)⟩⟩
theorem RdS.more {w : World} {B B' : Nat} {A : Option Addr} {n : Nat} {l : List ByteArray} (h : RdS w B A n l) (hB : B ≤ B') : RdS w B' A n l :=
  ⟨h.1, h.2.1, fun hn => by
    obtain ⟨ad, e, hb, hc⟩ := h.2.2 hn
    exact ⟨ad, e, by omega, hc⟩⟩
theorem RdS.at_ {w : World} {B : Nat} {A : Option Addr} {n : Nat} {l : List ByteArray} (h : RdS w B A n l) {k : Nat} (hk : k < n) :
    ∃ ad s, A = some ad ∧ ad.block < B ∧ l[k]? = some s ∧ s.size ≤ 2000000 ∧ w.cell? (ad.add k) = some (.string s) := by
  obtain ⟨ad, e, hB, hc⟩ := h.2.2 (by omega)
  have hl : k < l.length := by rw [h.1]; exact hk
  have hx := List.getElem?_eq_getElem hl
  exact ⟨ad, l[k], e, hB, hx, h.2.1 _ (List.getElem_mem hl), hc k _ hx⟩

def Ls (l : List ByteArray) : List L := l.map fun s => s.data.toList
theorem ls_at {l : List ByteArray} {k : Nat} {s : ByteArray} (h : l[k]? = some s) : (Ls l).getD k [] = s.data.toList := by
  simp [Ls, h]
theorem ls_len (l : List ByteArray) : (Ls l).length = l.length := by simp [Ls]
def strV (outs : List L) : List Value := outs.map fun s => .string ⟨s.toArray⟩
theorem strV_snoc (outs : List L) (s : L) : strV (outs ++ [s]) = strV outs ++ [.string ⟨s.toArray⟩] := by simp [strV]

theorem own_kept {w w' : World} {R B : Nat} {v : Value} {n : Nat} {xs : List Value} {cs : Array Value} (h : w.ownsRow B 9 1 v n xs) (hk : Kept R w w') (hR : w.heap[R]? = some (.cells cs 30 (0, 0))) : w'.ownsRow B 9 1 v n xs := by
  refine ⟨h.1, ?_⟩
  rcases h.2 with h | ⟨g, cap, cur, h1, h2, h3, h4⟩
  · exact Or.inl h
  · refine Or.inr ⟨g, cap, cur, h1, h2, ?_, h4⟩
    refine hk g _ h3 ?_ (by intro es c e; cases e)
    rintro rfl
    rw [hR] at h3
    cases h3
theorem own_kind {w : World} {B : Nat} {v : Value} {n : Nat} {xs : List Value} (h : w.ownsRow B 9 1 v n xs) : ∀ k, v.ownBlock = some k → ∃ cs fz, w.heap[k]? = some (.cells cs 9 fz) := by
  intro k hk
  rcases h.2 with ⟨rfl, _⟩ | ⟨g, cap, cur, rfl, _, h3, _⟩
  · simp [Value.ownBlock] at hk
  · simp only [Value.ownBlock, Option.some.injEq] at hk
    subst hk
    exact ⟨cur, _, h3⟩
theorem St.grown {B R : Nat} {U : List L} {w w' : World} {row : Option Nat} (h : St B R U w) (hg : w.grownBy w' row) (hr : ∀ k, row = some k → ∃ cs fz, w.heap[k]? = some (.cells cs 9 fz)) : St B R U w' := by
  obtain ⟨hB, u, hR, hu⟩ := h
  refine ⟨hB, u, ?_, ?_⟩
  · rw [hg.block R (Array.getElem?_eq_some_iff.1 hR).1 (fun e => by
      obtain ⟨cs, fz, hc⟩ := hr R e.symm
      rw [hR] at hc
      cases hc)]
    exact hR
  · rcases hu with hu | ⟨mb, D, rfl, hmb, hown, hU⟩
    · exact Or.inl hu
    · refine Or.inr ⟨mb, D, rfl, hmb, hown.kept hg (fun e => ?_), hU⟩
      obtain ⟨cs, fz, hc⟩ := hr mb e.symm
      obtain ⟨es, c, hm⟩ := Own.isMap hown
      rw [hm] at hc
      cases hc
theorem St.alloc {B R : Nat} {U : List L} {w : World} (h : St B R U w) (o : Obj) : St B R U (w.alloc o) := h.grown (World.grownBy_alloc w o none) (fun k e => by cases e)
theorem St.cells {B R : Nat} {U : List L} {w : World} (h : St B R U w) : ∃ cs, w.heap[R]? = some (.cells cs 30 (0, 0)) := by
  obtain ⟨_, u, hR, _⟩ := h
  exact ⟨_, hR⟩

theorem info9 : (Tryd.prog.info? 9).map (fun i => (i.zero, i.size, i.bytes)) = some (some (.string ⟨#[]⟩), 1, 16) := by kernel_rfl
theorem str_cell (w : World) (c : Value) : ∀ j u, [c][j]? = some u → (w.alloc (.cells #[c] 9)).cell? ((⟨w.heap.size, 0, none⟩ : Addr).add j) = some u := by
  intro j u hj
  match j, hj with
  | 0, hj => simp at hj; subst hj; simp [Addr.add]
def RelR (n : Nat) (l : List ByteArray) (w : World) (v i : Value) (wr : World) : Prop :=
  ∃ outs : List L, outs.length ≤ n ∧ i = .int .i64 (outs.length : Int) ∧ Given (Ls l) outs ∧ wr.ownsRow w.heap.size 9 1 v outs.length (strV outs) ∧ St w.heap.size w.heap.size outs wr ∧ Below w.heap.size w wr
def RetOut (n : Nat) (l : List ByteArray) (w : World) (e : Ending) (w' : World) : Prop :=
  ∃ (outs : List L) (v : Value), e = .returned v ∧ outs.length = n ∧ Given (Ls l) outs ∧ w'.ownsRow w.heap.size 9 1 v n (strV outs) ∧ Below w.heap.size w w'

set_option maxHeartbeats 1000000 in
theorem renamed_any (A : Option Addr) (n c : Nat) (l : List ByteArray) (hn : n ≤ 1048576) (w : World) (hT : Tab w) (hr : RdS w w.heap.size A n l) :
    Calls Tryd.prog 6 #[.slice A n c] w (RetOut n l w) := by
  obtain ⟨i0, hi, hz0, hz1, hz2⟩ := info_parts info9
  have HR := Lib.hid hr
  have HT := Lib.hid hT
  clear hr hT
  go_enter Tryd.func6, Tryd.ntmps6
  go_wp2
  go_loopw [4, 11] (fun v i wr => RelR n l w v i wr) (fun _ i _ => n - (RowKit.intOf i).toNat)
  case atStart => exact ⟨[], Nat.zero_le _, rfl, given_nil _, ⟨rfl, Or.inl ⟨rfl, rfl⟩⟩, ⟨Nat.le_refl _, _, heap_alloc_new w _, Or.inl ⟨rfl, rfl⟩⟩, (Below.refl _ _).alloc (Nat.le_refl _) _⟩
  case round =>
    obtain ⟨outs, hk, rfl, hgv, hown, hst, hbw⟩ := hrel
    have hsz := hbw.size
    by_cases hlt : outs.length < n
    · obtain ⟨ad, s, rfl, hB, hx, hs, hc1⟩ := (HR.out.below hbw).at_ hlt
      have HN := Lib.hid (next_any w.heap.size w.heap.size outs s (by omega) wr (HT.out.below hbw (Nat.le_refl _)) hsz hst (by omega))
      have HX := Lib.hid (ls_at hx)
      have HO := Lib.hid hown
      have HG := Lib.hid hgv
      obtain ⟨cs, hcs⟩ := hst.cells
      have HCS := Lib.hid hcs
      have HLL := Lib.hid (show outs.length < (Ls l).length by rw [ls_len, HR.out.1]; exact hlt)
      clear hown hgv hst hx hcs
      go_wp2_with fail
      refine HN.out.mono ?_
      rintro e w1 ⟨t, rfl, hren, hst1, hk1, hb1⟩
      rw [← HX.out] at hren
      have HG2 := Lib.hid (given_snoc HG.out HLL.out hren)
      have hown2 := own_kept HO.out hk1 HCS.out
      have hbw2 := hbw.trans hb1
      have hsz2 := hbw2.size
      have HS := Lib.hid (strV_snoc outs t)
      have HST := Lib.hid hst1
      clear HN hren hk1 hb1 hbw HG HO HCS hc1 HX HLL hst1
      go_wp2_with (at_builtin; refine wpList_append_own _ rfl (.tmp 15) (.tmp 19) 22 rfl w.heap.size 9 i0 (.string ⟨#[]⟩) 1 16 Tryd.underlying22 hi hz0 hz1 hz2 rfl (by decide) _ outs.length (strV outs) rfl (hown2.alloc _) ⟨w1.heap.size, 0, none⟩ 1 1 [.string ⟨t.toArray⟩] rfl rfl (str_cell _ _) (by intro u hu; simp at hu; subst hu; rfl) (by unfold maxLen; omega) (by omega) (by simp; omega) ?_; intro v3 w3 hown3 hgrow3 _)
      have hbw3 : Below w.heap.size w w3 := (hbw2.alloc hsz2 _).grown hgrow3 (by simp; omega) fun j e => (hown2.lt j e).1
      have hst3 : St w.heap.size w.heap.size (outs ++ [t]) w3 := (HST.out.alloc _).grown hgrow3 (own_kind (hown2.alloc _))
      go_roundw
      case rel => exact ⟨outs ++ [t], by rw [List.length_append]; exact hlt, by rw [List.length_append]; go_num, HG2.out, by rw [HS.out, List.length_append]; exact hown3, hst3, hbw3⟩
      case measure => simp [RowKit.intOf]; omega
    · have hkn : outs.length = n := by omega
      have HKN := Lib.hid hkn
      clear hkn
      go_wp2
      go_ret
      exact ⟨outs, _, rfl, HKN.out, hgv, by rw [← HKN.out]; exact hown, hbw⟩
end Go.Proofs.YtaaeahadjfiofaaDoor.ren
