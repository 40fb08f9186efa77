/- What impl.scanned and impl.Counts compute: the counts of all texts. -/
import Derived.Test.YtpmihkhmijndaaaDoorCntScan
import Derived.Laws.IdiomStrings
import Derived.Maps.AppendAt
import Derived.WalkSpells
import Derived.Laws.CopyOwn
import Derived.OwnWalk
namespace Go.Proofs.YtpmihkhmijndaaaDoor.cnt
open Go.ChangeShapes Go.WideShapes Go.ChangeAt Go.RowKit

theorem block_of_add (a : Addr) (n : Nat) : (a.add n).block = a.block := by unfold Addr.add; split <;> rfl
theorem add_one (a : Addr) (m : Nat) : a.add (m + 1) = ⟨(a.add m).block, (a.add m).off + 1, none⟩ := by
  unfold Addr.add
  rw [if_neg (by omega)]
  split <;> simp <;> omega
def Rd (w : World) (B : Nat) (A : Option Addr) (n : Nat) (L : List (ByteArray × Int)) : Prop :=
  L.length = n ∧ (∀ p ∈ L, p.1.size ≤ 9223372036854775807) ∧ (0 < n → ∃ ad, A = some ad ∧ ad.block < B ∧ ∀ j p, L[j]? = some p → w.cell? (ad.add (j * 2)) = some (.string p.1) ∧ w.cell? (ad.add (j * 2 + 1)) = some (.int .i32 p.2))
theorem Rd.below {w w' : World} {B : Nat} {A : Option Addr} {n : Nat} {L : List (ByteArray × Int)} (h : Rd w B A n L) (hb : Below B w w') : Rd w' B A n L :=
  ⟨h.1, h.2.1, fun hn => by
    obtain ⟨ad, e, hB, hc⟩ := h.2.2 hn
    exact ⟨ad, e, hB, fun j p hp => ⟨(hb.cell (by rw [block_of_add]; exact hB)).trans (hc j p hp).1, (hb.cell (by rw [block_of_add]; exact hB)).trans (hc j p hp).2⟩⟩⟩
theorem Rd.at_ {w : World} {B : Nat} {A : Option Addr} {n : Nat} {L : List (ByteArray × Int)} (h : Rd w B A n L) {k : Nat} (hk : k < n) :
    ∃ ad s d, A = some ad ∧ ad.block < B ∧ L[k]? = some (s, d) ∧ s.size ≤ 9223372036854775807 ∧ w.cell? (ad.add (k * 2)) = some (.string s) ∧ w.cell? ⟨(ad.add (k * 2)).block, (ad.add (k * 2)).off + 1, none⟩ = some (.int .i32 d) := by
  obtain ⟨ad, e, hB, hc⟩ := h.2.2 (by omega)
  have hl : k < L.length := by rw [h.1]; exact hk
  have hx := List.getElem?_eq_getElem hl
  obtain ⟨h1, h2⟩ := hc k _ hx
  exact ⟨ad, L[k].1, L[k].2, e, hB, hx, h.2.1 _ (List.getElem_mem hl), h1, by rw [← add_one]; exact h2⟩

theorem info38 : (Tryd.prog.info? 47).map (·.size) = some 64 := by kernel_rfl
theorem arr_size (cs : List Int) : (arr cs).size = cs.length := by simp [arr]
theorem arr_one (cs : List Int) : (arr cs).all (·.oneCell') = true := by simp [arr, Value.oneCell']
theorem wpList_store_blk {P : Program} {ops : Array Oper} {rest : List Oper} {o : Oper} {a : Act} {w : World} {Q : Exit → Act → World → Prop} (hgd : o.guard = none) (ty : TypeId) (x y : Operand) (ho : o.op = .store ty x y)
    (g : Nat) (cells : Array Value) (hx : a.eval x = .pointer (some ⟨g, 0, none⟩)) (hy : a.eval y = .agg cells)
    (t : TypeId) (old : Array Value) (hg : Blk w g t old) (hi : (P.info? ty).map (·.size) = some cells.size)
    (hold : old.size = cells.size) (h1 : cells.all (·.oneCell') = true)
    (h : ∀ W, Blk W g t cells → Only g w W → wpList P ops Q rest (a.put o.dst undef) W) : wpList P ops Q (o :: rest) a w :=
  wpList_store_row hgd ty x y ho g cells hx hy t old hg hi hold h1 (h _ (setRow_heap _ _ _ _ _ _ hg) ⟨rfl, rfl, rfl, by simp, fun _ hk => setRow_other _ _ _ _ hk⟩)
def RelC (n : Nat) (L : List (ByteArray × Int)) (w : World) (i : Value) (wr : World) : Prop :=
  ∃ k : Nat, k ≤ n ∧ i = .int .i64 (k : Int) ∧ Blk wr w.heap.size 47 (arr z64) ∧ Blk wr (w.heap.size + 1) 47 (arr (all z64 (L.take k))) ∧ Below w.heap.size w wr
theorem Blk.lt {w : World} {g : Nat} {t : TypeId} {cs : Array Value} (h : Blk w g t cs) : g < w.heap.size := by
  rcases Nat.lt_or_ge g w.heap.size with hlt | hge
  · exact hlt
  · unfold Blk at h; rw [Array.getElem?_eq_none hge] at h; cases h
theorem Blk.new (w : World) (t : TypeId) (cs : Array Value) : Blk (w.alloc (.cells cs t)) w.heap.size t cs := heap_alloc_new w _
theorem Blk.alloc {w : World} {g : Nat} {t : TypeId} {cs : Array Value} (h : Blk w g t cs) (o : Obj) : Blk (w.alloc o) g t cs := (Below.heap_alloc w o g h.lt).trans h
theorem Blk.only {w w' : World} {g k : Nat} {t : TypeId} {cs : Array Value} (h : Blk w k t cs) (ho : Only g w w') (hk : k ≠ g) : Blk w' k t cs := (ho.block k hk).trans h
theorem take_at {L : List (ByteArray × Int)} {k : Nat} {p : ByteArray × Int} (h : L[k]? = some p) : all z64 (L.take (k + 1)) = scanL p.2 (all z64 (L.take k)) p.1.data.toList := by
  obtain ⟨hl, rfl⟩ := List.getElem?_eq_some_iff.1 h
  rw [List.take_succ_eq_append_getElem hl, all_snoc]

theorem new2 (w : World) (a b : Array Value) : Blk ((w.alloc (.cells a 47)).alloc (.cells b 47)) (w.heap.size + 1) 47 b := by
  have := Blk.new (w.alloc (.cells a 47)) 47 b
  simpa using this

set_option maxRecDepth 100000 in
set_option maxHeartbeats 1000000 in
theorem scanned_any (A : Option Addr) (n c : Nat) (L : List (ByteArray × Int)) (hn : n ≤ 140737488355328) (w : World) (hr : Rd w w.heap.size A n L) :
    Calls Tryd.prog 18 #[.slice A n c] w fun e w' => e = .returned (.agg (arr (all z64 L))) ∧ Below w.heap.size w w' := by
  go_enter Tryd.func18, Tryd.ntmps18
  go_wp2
  go_loopw [8] (fun i wr => RelC n L w i wr) (fun i _ => n - (intOf i).toNat)
  case atStart =>
    refine ⟨0, Nat.zero_le _, rfl, ?_, ?_, ((Below.refl _ _).alloc (Nat.le_refl _) _).alloc (by simp) _⟩
    · exact (Blk.new w 47 (arr z64)).alloc _
    · exact new2 w (arr z64) (arr z64)
  case round =>
    obtain ⟨k, hk, rfl, hb0, hb1, hbw⟩ := hrel
    by_cases hlt : k < n
    · obtain ⟨ad, s, d, rfl, hB, hx, hs, hc1, hc2⟩ := (hr.below hbw).at_ hlt
      have hln : (all z64 (L.take k)).length = 64 := (all_len _ _).trans z64_len
      have hft := all_fits z64_fits (L.take k)
      have hsz := hb1.lt
      have HT := Lib.hid (take_at hx)
      have HLN := Lib.hid hln
      clear hln hx
      generalize all z64 (L.take k) = cur at *
      have HS := Lib.hid (fun (W : World) (hb : Blk W (w.heap.size + 1) 47 (arr cur)) => scan_both s hs d cur HLN.out hft (w.heap.size + 1) 47 W hb)
      have HB0 := Lib.hid hb0
      have HB1 := Lib.hid hb1
      clear hb0 hb1 hr
      go_wp2_with fail
      refine (HS.out _ (by exact HB1.out.alloc _)).mono ?_
      rintro e w' ⟨rfl, hb1', ho⟩
      have hb0' := (HB0.out.alloc _).only ho (by omega)
      have hbw' := (hbw.alloc (by omega) _).trans (ho.below (by omega))
      clear HS HB0 HB1 ho hc1 hc2
      go_wp2_with fail
      go_roundw
      case rel => exact ⟨k + 1, by omega, by go_num, hb0', by rw [HT.out]; exact hb1', hbw'⟩
      case measure => simp [intOf]; omega
    · obtain rfl : k = n := by omega
      have hall : L.take k = L := List.take_of_length_le (by rw [hr.1]; exact Nat.le_refl _)
      rw [hall] at hb1
      have hln : (all z64 L).length = 64 := (all_len _ _).trans z64_len
      have HLN := Lib.hid hln
      clear hall hr hln
      go_wp2_with (first
        | (refine wpList_load_row rfl 47 (.tmp 3) rfl (w.heap.size + 1) rfl 47 (arr (all z64 L)) (0, 0) _ hb1 Tryd.underlying47 rfl (by rw [info38, arr_size, HLN.out]) ?_)
        | (refine wpList_store_row rfl 47 (.tmp 2) (.tmp 18) rfl w.heap.size (arr (all z64 L)) rfl rfl 47 (arr z64) hb0 (by rw [info38, arr_size, HLN.out]) (by rw [arr_size, arr_size, HLN.out]; rfl) (arr_one _) ?_))
      refine bodyPost_ret (v := .agg (arr (all z64 L))) (by exact results_cell_row (p := 2) (ty := 47) Tryd.results18 _ _ w.heap.size 47 (arr (all z64 L)) (0, 0) _ rfl (setRow_heap _ _ _ _ _ _ hb0) Tryd.underlying47 rfl (by rw [info38, arr_size, HLN.out])) (by rfl) ?_
      exact ⟨rfl, below_setRow hbw (Nat.le_refl _) _⟩

def ic (cs : List Int) : List Value := cs.map (Value.int .i32)
theorem ic_len (cs : List Int) : (ic cs).length = cs.length := by simp [ic]
theorem ic_one (cs : List Int) : ∀ u ∈ ic cs, u.oneCell' = true := by
  intro u hu
  simp only [ic, List.mem_map] at hu
  obtain ⟨x, _, rfl⟩ := hu
  rfl
theorem blk_cells {W : World} {g : Nat} {t : TypeId} {cs : List Int} (h : Blk W g t (arr cs)) : ∀ j u, (ic cs)[j]? = some u → W.cell? ((⟨g, 0, none⟩ : Addr).add j) = some u := by
  intro j u hu
  have hadd : (⟨g, 0, none⟩ : Addr).add j = ⟨g, j, none⟩ := by unfold Addr.add; split <;> simp_all
  rw [hadd, h.cell j, ← hu]
  simp [arr, ic]
/-- A row of 64 numbers that the call made. -/
def RetRow (cs : List Int) (w : World) (e : Ending) (w' : World) : Prop := ∃ v, e = .returned v ∧ w'.ownsRow w.heap.size 21 1 v 64 (ic cs) ∧ Below w.heap.size w w'
theorem info21 : (Tryd.prog.info? 21).map (fun i => (i.zero, i.size, i.bytes)) = some (some (.int .i32 0), 1, 4) := by kernel_rfl

end Go.Proofs.YtpmihkhmijndaaaDoor.cnt
