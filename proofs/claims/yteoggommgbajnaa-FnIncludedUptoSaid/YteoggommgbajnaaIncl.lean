/- What CharFreq.Include and impl.Included compute; the plain law that counts add up; a slice of impl.Scan that came in, under any bound; an append whose source may be nil. -/
import Derived.Test.YteoggommgbajnaaCntOpen
import Derived.Laws.AppendOwnNone
namespace Go.Proofs.Yteoggommgbajnaa.cnt
open Go.ChangeShapes Go.WideShapes Go.ChangeAt Go.RowKit Go.Deep

def addL (cs ds : List Int) : List Int := List.zipWith (fun a b => wrap32 (a + b)) cs ds
theorem addL_len (cs ds : List Int) (h1 : cs.length = 64) (h2 : ds.length = 64) : (addL cs ds).length = 64 := by simp [addL, h1, h2]
theorem addL_getD (cs ds : List Int) (h1 : cs.length = 64) (h2 : ds.length = 64) (k : Nat) (hk : k < 64) : (addL cs ds).getD k 0 = wrap32 (cs.getD k 0 + ds.getD k 0) := by
  simp only [List.getD_eq_getElem?_getD]
  rw [addL, List.getElem?_zipWith, List.getElem?_eq_getElem (by omega), List.getElem?_eq_getElem (by omega)]
  rfl
theorem wrap32_add_left (a b : Int) : wrap32 (wrap32 a + b) = wrap32 (a + b) := by unfold wrap32; omega
theorem wrap32_add_right (a b : Int) : wrap32 (a + wrap32 b) = wrap32 (a + b) := by unfold wrap32; omega
theorem list_ext64 {cs ds : List Int} (h1 : cs.length = 64) (h2 : ds.length = 64) (h : ∀ k, k < 64 → cs.getD k 0 = ds.getD k 0) : cs = ds := by
  refine List.ext_getElem (by omega) fun k a b => ?_
  have := h k (by omega)
  simp only [List.getD_eq_getElem?_getD] at this
  rw [List.getElem?_eq_getElem a, List.getElem?_eq_getElem b] at this
  exact this
theorem bump_getD (cs : List Int) (h : cs.length = 64) (k : Nat) (hk : k < 64) (d : Int) (j : Nat) : (bump cs k d).getD j 0 = if j = k then wrap32 (cs.getD k 0 + d) else cs.getD j 0 := by
  unfold bump
  simp only [List.getD_eq_getElem?_getD, List.getElem?_set]
  by_cases e : k = j
  · subst e; simp [h, hk]
  · rw [if_neg e, if_neg (fun x => e x.symm)]
theorem addL_bump (a b : List Int) (ha : a.length = 64) (hb : b.length = 64) (k : Nat) (hk : k < 64) (d : Int) : addL a (bump b k d) = bump (addL a b) k d := by
  have hl := addL_len a b ha hb
  refine list_ext64 (addL_len _ _ ha (by rw [bump_len]; exact hb)) (by rw [bump_len]; exact hl) fun j hj => ?_
  rw [addL_getD a _ ha (by rw [bump_len]; exact hb) j hj, bump_getD b hb k hk d j, bump_getD _ hl k hk d j]
  by_cases e : j = k
  · subst e
    rw [if_pos rfl, if_pos rfl, addL_getD a b ha hb j hj, wrap32_add_right, wrap32_add_left, Int.add_assoc]
  · rw [if_neg e, if_neg e, addL_getD a b ha hb j hj]
theorem addL_scan (a : List Int) (ha : a.length = 64) (d : Int) (l : List UInt8) : ∀ b : List Int, b.length = 64 → addL a (scanL d b l) = scanL d (addL a b) l := by
  induction l with
  | nil => intro b _; rfl
  | cons c l ih =>
    intro b hb
    have hone : addL a (one d b c) = one d (addL a b) c := by
      unfold one
      cases h : idx c.toNat with
      | none => rfl
      | some k => exact addL_bump a b ha hb k (idx_lt h) d
    show addL a (scanL d (one d b c) l) = scanL d (one d (addL a b) c) l
    rw [ih _ (by rw [one_len]; exact hb), hone]
theorem addL_all (a : List Int) (ha : a.length = 64) (M : List (ByteArray × Int)) : ∀ b : List Int, b.length = 64 → addL a (all b M) = all (addL a b) M := by
  induction M with
  | nil => intro b _; rfl
  | cons p M ih =>
    intro b hb
    show addL a (all (scanL p.2 b p.1.data.toList) M) = all (scanL p.2 (addL a b) p.1.data.toList) M
    rw [ih _ (by rw [scan_len]; exact hb), addL_scan a ha _ _ b hb]
theorem addL_zero (a : List Int) (ha : a.length = 64) (hf : Fits a) : addL a z64 = a := by
  refine list_ext64 (addL_len _ _ ha z64_len) ha fun k hk => ?_
  rw [addL_getD a z64 ha z64_len k hk]
  have e : z64.getD k 0 = 0 := by rw [List.getD_eq_getElem?_getD, z64, List.getElem?_replicate, if_pos hk]; rfl
  rw [e, Int.add_zero, wrap32_same (hf k)]
theorem all_append (L M : List (ByteArray × Int)) : addL (all z64 L) (all z64 M) = all z64 (L ++ M) := by
  have hl := (all_len z64 L).trans z64_len
  rw [addL_all _ hl M z64 z64_len, addL_zero _ hl (all_fits z64_fits L)]
  simp [all]

/-- Include, k rounds on. -/
def part (cs ds : List Int) (k : Nat) : List Int := (addL cs ds).take k ++ cs.drop k
theorem part_len (cs ds : List Int) (h1 : cs.length = 64) (h2 : ds.length = 64) (k : Nat) (hk : k ≤ 64) : (part cs ds k).length = 64 := by
  unfold part
  rw [List.length_append, List.length_take, List.length_drop, addL_len cs ds h1 h2, h1]
  omega
theorem part_zero (cs ds : List Int) : part cs ds 0 = cs := by simp [part]
theorem part_end (cs ds : List Int) (h1 : cs.length = 64) (h2 : ds.length = 64) : part cs ds 64 = addL cs ds := by
  unfold part
  rw [List.take_of_length_le (by rw [addL_len cs ds h1 h2]; decide), List.drop_of_length_le (by rw [h1]; decide), List.append_nil]
theorem part_at (cs ds : List Int) (h1 : cs.length = 64) (h2 : ds.length = 64) (k : Nat) (hk : k < 64) : (part cs ds k).getD k 0 = cs.getD k 0 := by
  have hl := addL_len cs ds h1 h2
  unfold part
  simp only [List.getD_eq_getElem?_getD]
  rw [List.getElem?_append_right (by rw [List.length_take]; omega), List.length_take, List.getElem?_drop]
  congr 2
  omega
theorem part_succ (cs ds : List Int) (h1 : cs.length = 64) (h2 : ds.length = 64) (k : Nat) (hk : k < 64) : part cs ds (k + 1) = (part cs ds k).set k (wrap32 (cs.getD k 0 + ds.getD k 0)) := by
  have hl := addL_len cs ds h1 h2
  have hg := addL_getD cs ds h1 h2 k hk
  rw [List.getD_eq_getElem?_getD, List.getElem?_eq_getElem (by omega)] at hg
  unfold part
  rw [List.set_append_right _ _ (by rw [List.length_take]; omega), List.length_take, Nat.min_eq_left (by omega), Nat.sub_self, List.drop_eq_getElem_cons (by omega : k < cs.length), List.set_cons_zero, List.take_succ_eq_append_getElem (by omega), List.append_assoc, ← hg]
  rfl

def RelI (cs ds : List Int) (g h : Nat) (t t' : TypeId) (w : World) (i : Value) (wr : World) : Prop :=
  ∃ k : Nat, k ≤ 64 ∧ i = .int .i64 (k : Int) ∧ Blk wr g t (arr (part cs ds k)) ∧ Blk wr h t' (arr ds) ∧ Only g w wr
set_option maxRecDepth 100000 in
set_option maxHeartbeats 2000000 in
theorem include_any (cs ds : List Int) (h1 : cs.length = 64) (h2 : ds.length = 64) (g h : Nat) (hgh : h ≠ g) (t t' : TypeId) (w : World) (hb : Blk w g t (arr cs)) (hd : Blk w h t' (arr ds)) :
    Calls Try.prog 23 #[.pointer (some ⟨g, 0, none⟩), .pointer (some ⟨h, 0, none⟩)] w fun e w' => e = .returned (.tuple #[]) ∧ Blk w' g t (arr (addL cs ds)) ∧ Only g w w' := by
  have H1 := Lib.hid h1
  have H2 := Lib.hid h2
  clear h1 h2
  go_enter Try.func23, Try.ntmps23
  go_wp2
  go_loopw [4] (fun i wr => RelI cs ds g h t t' w i wr) (fun i _ => 64 - (intOf i).toNat)
  case atStart => exact ⟨0, Nat.zero_le _, rfl, by rw [part_zero]; exact hb, hd, Only.refl _ _⟩
  case round =>
    obtain ⟨k, hk, rfl, hbk, hdk, ho⟩ := hrel
    clear hb hd
    by_cases hlt : k < 64
    · have hc : wr.cell? ⟨g, k, none⟩ = some (.int .i32 (cs.getD k 0)) := by
        rw [hbk.cell k, arr_get _ k (by rw [part_len cs ds H1.out H2.out k hk]; exact hlt), part_at cs ds H1.out H2.out k hlt]
      have hc2 : wr.cell? ⟨h, k, none⟩ = some (.int .i32 (ds.getD k 0)) := by
        rw [hdk.cell k, arr_get _ k (by rw [H2.out]; exact hlt)]
      have hf := hbk.frozen k
      have HB := Lib.hid hbk
      have HD := Lib.hid hdk
      have HS := Lib.hid (part_succ cs ds H1.out H2.out k hlt)
      clear hbk hdk
      generalize cs.getD k 0 = x at *
      generalize ds.getD k 0 = y at *
      go_wp2
      go_region
      go_wp2
      refine ⟨⟨k + 1, by omega, by go_num, ?_, ?_, (ho.setCell k _).drew⟩, by simp [intOf]; omega⟩
      · rw [HS.out, ← arr_set]
        exact HB.out.set_ k _
      · exact HD.out.only (((Only.refl g wr).setCell k _).drew) hgh
    · obtain rfl : k = 64 := by omega
      rw [part_end cs ds H1.out H2.out] at hbk
      go_wp2
      go_end0
      exact ⟨rfl, hbk, ho⟩

theorem Only.trans {g : Nat} {a b c : World} (h : Only g a b) (k : Only g b c) : Only g a c := ⟨k.os.trans h.os, k.tape.trans h.tape, k.output.trans h.output, k.size.trans h.size, fun j hj => (k.block j hj).trans (h.block j hj)⟩
theorem new2b (w : World) (o : Obj) (cs : Array Value) (t : TypeId) : Blk ((w.alloc o).alloc (.cells cs t)) (w.heap.size + 1) t cs := by
  have := Blk.new (w.alloc o) t cs
  simpa using this
set_option maxRecDepth 100000 in
set_option maxHeartbeats 1000000 in
theorem included_any (A : Option Addr) (n c : Nat) (L : List (ByteArray × Int)) (hn : n ≤ 140737488355328) (A2 : Option Addr) (m c2 : Nat) (M : List (ByteArray × Int)) (hm : m ≤ 140737488355328) (w : World) (hr : Rd w w.heap.size A n L) (hr2 : Rd w w.heap.size A2 m M) :
    Calls Try.prog 16 #[.slice A n c, .slice A2 m c2] w (RetRow (all z64 (L ++ M)) w) := by
  obtain ⟨i0, hi, hz0, hz1, hz2⟩ := info_parts info21
  have HS1 := Lib.hid (scanned_any A n c L hn w hr)
  have HS2 := Lib.hid (fun (W : World) (hW : Rd W W.heap.size A2 m M) => scanned_any A2 m c2 M hm W hW)
  have HR2 := Lib.hid hr2
  have HAP := Lib.hid (all_append L M)
  have HLN := Lib.hid ((all_len z64 L).trans z64_len)
  have HLM := Lib.hid ((all_len z64 M).trans z64_len)
  clear hr hr2
  generalize all z64 L = csL at *
  generalize all z64 M = csM at *
  generalize all z64 (L ++ M) = csA at *
  go_enter Try.func16, Try.ntmps16
  go_wp2_with fail
  refine HS1.out.mono ?_
  rintro e w1 ⟨rfl, hb1⟩
  go_wp2_with fail
  refine (HS2.out _ ((HR2.out.below hb1).more hb1.size)).mono ?_
  rintro e w2 ⟨rfl, hb2⟩
  have hbw : Below w.heap.size w w2 := hb1.trans (hb2.mono hb1.size)
  have hsz : w.heap.size ≤ w2.heap.size := hbw.size
  clear HS1 HS2 HR2 hb1 hb2
  go_wp2_with (first
    | (refine wpList_store_blk rfl 38 (.tmp 5) (.tmp 8) rfl w2.heap.size (arr csL) rfl rfl 38 (arr z64) ((Blk.new w2 38 (arr z64)).alloc _) (by rw [info38, arr_size, HLN.out]) (by rw [arr_size, arr_size, HLN.out]; rfl) (arr_one csL) ?_; intro W1 hbW1 hoW1; have HO1 := Lib.hid hoW1; clear hoW1)
    | (refine wpList_store_blk rfl 38 (.tmp 6) (.tmp 10) rfl (w2.heap.size + 1) (arr csM) rfl rfl 38 (arr z64) ((new2b w2 _ (arr z64) 38).only HO1.out (by omega)) (by rw [info38, arr_size, HLM.out]) (by rw [arr_size, arr_size, HLM.out]; rfl) (arr_one csM) ?_; intro W2 hbW2 hoW2; have HO2 := Lib.hid hoW2; clear hoW2)
    | fail)
  refine (include_any csL csM HLN.out HLM.out w2.heap.size (w2.heap.size + 1) (by omega) 38 38 _ (hbW1.only HO2.out (by omega)) hbW2).mono ?_
  rintro e W3 ⟨rfl, hb3, ho3⟩
  rw [HAP.out] at hb3
  have HLA := Lib.hid (show csA.length = 64 by rw [← HAP.out]; exact addL_len _ _ HLN.out HLM.out)
  have hs3 : W3.heap.size = w2.heap.size + 2 := by
    have a := HO1.out.size
    have b := HO2.out.size
    have d := ho3.size
    simp at a
    omega
  have hlo : w2.heap.size + 2 ≤ W3.heap.size := by omega
  have hb4 : Below w.heap.size w W3 := ((((hbw.alloc hsz _).alloc (by simp; omega) _).trans (HO1.out.below hsz)).trans (HO2.out.below (by omega))).trans (ho3.below hsz)
  clear HO1 HO2 ho3 hs3 hbW1 hbW2 hbw HAP HLN HLM
  go_wp2_with (at_builtin; refine wpList_append_own _ rfl (.tmp 12) (.tmp 13) 27 rfl w.heap.size 21 i0 (.int .i32 0) 1 4 Try.underlying27 hi hz0 hz1 hz2 rfl (by decide) _ 0 [] rfl (World.ownsRow_made W3 #[] 0 (by omega) (Nat.zero_le _) rfl) ⟨w2.heap.size, 0, none⟩ 64 64 (ic csA) rfl (by rw [ic_len, HLA.out]) (blk_cells (hb3.alloc _)) (ic_one csA) (by decide) (by decide) (by simp; omega) ?_; intro v5 w5 hown5 hgrow5 _)
  go_ret
  refine ⟨v5, rfl, by simpa using hown5, ?_⟩
  refine (hb4.alloc (by omega) _).grown hgrow5 (by simp; omega) fun k e => ?_
  have e' : some W3.heap.size = some k := e
  injection e' with e'
  omega

theorem info43 : (Try.prog.info? 43).map (fun i => (i.zero, i.size, i.bytes)) = some (some (.agg #[.string ⟨#[]⟩, .int .i32 0]), 2, 24) := by kernel_rfl
theorem flat_append (L M : List (ByteArray × Int)) : flat (L ++ M) = flat L ++ flat M := by simp [flat]
theorem flat_one (L : List (ByteArray × Int)) : ∀ u ∈ flat L, u.oneCell' = true := by
  intro u hu
  simp only [flat, List.mem_flatMap] at hu
  obtain ⟨p, _, hp⟩ := hu
  simp at hp
  rcases hp with rfl | rfl <;> rfl
theorem flat_get {L : List (ByteArray × Int)} {j : Nat} {u : Value} (h : (flat L)[j]? = some u) : ∃ i p, L[i]? = some p ∧ ((j = i * 2 ∧ u = .string p.1) ∨ (j = i * 2 + 1 ∧ u = .int .i32 p.2)) := by
  have hj : j < (flat L).length := (List.getElem?_eq_some_iff.1 h).1
  rw [flat_len] at hj
  have hi : j / 2 < L.length := by omega
  have hx := List.getElem?_eq_getElem hi
  obtain ⟨h1, h2⟩ := flat_at hx
  refine ⟨j / 2, _, hx, ?_⟩
  by_cases e : j % 2 = 0
  · left
    have : j / 2 * 2 = j := by omega
    rw [this, h] at h1
    exact ⟨this.symm, Option.some.inj h1⟩
  · right
    have : j / 2 * 2 + 1 = j := by omega
    rw [this, h] at h2
    exact ⟨this.symm, Option.some.inj h2⟩
theorem Rd.cells {w : World} {B : Nat} {ad : Addr} {n : Nat} {L : List (ByteArray × Int)} (h : Rd w B (some ad) n L) : ∀ j u, (flat L)[j]? = some u → w.cell? (ad.add j) = some u := by
  intro j u hu
  obtain ⟨i, p, hp, hh⟩ := flat_get hu
  have hi : i < L.length := (List.getElem?_eq_some_iff.1 hp).1
  obtain ⟨ad', e, _, hc⟩ := h.2.2 (by rw [← h.1]; omega)
  cases e
  obtain ⟨h1, h2⟩ := hc i p hp
  rcases hh with ⟨rfl, rfl⟩ | ⟨rfl, rfl⟩
  · exact h1
  · exact h2
/-- An append of a slice of impl.Scan that came in, nil too, onto a row of the call's own. -/
theorem append_rd {w : World} {ops : Array Oper} {rest : List Oper} {o : Oper} {a : Act} {Q : Exit → Act → World → Prop} (hgd : o.guard = none) (s x : Operand) (ho : o.op = .call { callee := .builtin .append, args := #[s, x], argTypes := #[25, 25] })
    (base : Nat) (v : Value) (n : Nat) (xs : List Value) (hs : a.eval s = v) (hown : w.ownsRow base 43 2 v n xs) (A : Option Addr) (m c : Nat) (B : Nat) (M : List (ByteArray × Int)) (hx : a.eval x = .slice A m c) (hr : Rd w B A m M) (hA : A = none → m = 0 ∧ c = 0)
    (h63 : n + m ≤ maxLen) (hbytes : (n + m) * 24 ≤ 140737488355328) (hbase : base ≤ w.heap.size)
    (h : ∀ v' w', w'.ownsRow base 43 2 v' (n + m) (xs ++ flat M) → w.grownBy w' v.ownBlock → wpList Try.prog ops Q rest (a.put o.dst v') w') : wpList Try.prog ops Q (o :: rest) a w := by
  obtain ⟨i0, hi, hz0, hz1, hz2⟩ := info_parts info43
  cases A with
  | none =>
    obtain ⟨rfl, rfl⟩ := hA rfl
    have hM : M = [] := List.length_eq_zero_iff.1 hr.1
    subst hM
    refine wpList_append_own_none hgd s x 25 ho base 43 i0 2 Try.underlying25 hi v n xs hs hown hx ?_
    exact h v w (by simpa [flat] using hown) ⟨rfl, rfl, rfl, Nat.le_refl _, fun _ _ _ => rfl⟩
  | some ad =>
    exact wpList_append_own w hgd s x 25 ho base 43 i0 (.agg #[.string ⟨#[]⟩, .int .i32 0]) 2 24 Try.underlying25 hi hz0 hz1 hz2 rfl (by decide) v n xs hs hown ad m c (flat M) hx (by rw [flat_len, hr.1]) hr.cells (flat_one M) h63 hbytes hbase (fun v' w' h2 h3 _ => h v' w' h2 h3)
theorem rd_of_own43 {w' : World} {B : Nat} {v : Value} {n : Nat} {L : List (ByteArray × Int)} (h : w'.ownsRow B 43 2 v n (flat L)) (hl : L.length = n) (hs : ∀ p ∈ L, p.1.size ≤ 9223372036854775807) :
    ∃ A c, v = .slice A n c ∧ Rd w' w'.heap.size A n L := by
  rcases h.2 with ⟨rfl, rfl⟩ | ⟨g, cap, cur, rfl, hg, hh, _⟩
  · exact ⟨_, _, rfl, hl, hs, fun h => absurd h (by omega)⟩
  · refine ⟨_, _, rfl, hl, hs, fun _ => ⟨_, rfl, (Array.getElem?_eq_some_iff.1 hh).1, fun j p hp => ?_⟩⟩
    obtain ⟨h1, h2⟩ := flat_at hp
    exact ⟨h.cells (g := g) rfl _ _ h1, h.cells (g := g) rfl _ _ h2⟩

theorem open_scansN {H : Type} {enc : TypeId × Value → H} {W : World} {r : Reach} {b0 : Nat} {v : Value} {d : DataW H} {p : List MemPlace} (N : Nat) (hv : Value.okWide Try.prog W r b0 25 v)
    (h : DataW.Trod enc Try.prog W 0 (fun _ => true) true 25 v d p) (hlt : ∀ x ∈ p, x.block < W.heap.size)
    (hsz : ∀ (elems spare : List (DataW H)), d = .slice elems spare → elems.length + spare.length ≤ N) :
    ∃ A n c L, v = .slice A n c ∧ Rd W W.heap.size A n L ∧ n ≤ N ∧ (A = none → n = 0 ∧ c = 0) := by
  obtain ⟨A, n, c, rfl⟩ := okWide_slice Try.underlying25 hv
  obtain ⟨fuel, hf⟩ := h
  have hcs : (Value.slice A n c).cells.toList = [.slice A n c] := rfl
  rw [hcs] at hf
  rcases open_slice_pairs Try.underlying25 Try.underlying43 (by kernel_rfl) rfl rfl (by kernel_rfl) (by kernel_rfl) hf with ⟨h1, _⟩ | ⟨a, len, cap, m, f, V0, V1, D0, D1, P0, P1, h1, _, hlc, _, hm, hx, hi⟩
  · simp only [List.cons.injEq, Value.slice.injEq, and_true] at h1
    obtain ⟨rfl, rfl, rfl⟩ := h1
    exact ⟨none, 0, 0, [], rfl, ⟨rfl, by simp, fun h => absurd h (by omega)⟩, by omega, fun _ => ⟨rfl, rfl⟩⟩
  · simp only [List.cons.injEq, Value.slice.injEq, and_true] at h1
    obtain ⟨rfl, rfl, rfl⟩ := h1
    have hmc : m = c := by rw [hm]; rfl
    subst hmc
    simp only [Prod.mk.injEq] at hx
    obtain ⟨rfl, rfl⟩ := hx
    have hb := hsz _ _ rfl
    simp only [List.length_map, List.length_range] at hb
    have hcell : ∀ i, i < n → ∃ s z, V0 i = .string s ∧ V1 i = .int .i32 z ∧ s.size ≤ maxLen := by
      intro i hin
      obtain ⟨_, _, h3, h4⟩ := hi i (by omega)
      obtain ⟨s, hs1, _, hs2⟩ := DataW.trod_string Try.underlying9 h3
      obtain ⟨z, hz1, _, _⟩ := DataW.trod_int Try.underlying21 h4
      simp only [List.cons.injEq, and_true] at hs1 hz1
      exact ⟨s, z, hs1, hz1, hs2⟩
    refine ⟨some a, n, m, (List.range n).map fun i => (strOf (V0 i), intOf (V1 i)), rfl, ⟨by simp, ?_, fun hn => ⟨a, rfl, ?_, ?_⟩⟩, by omega, fun e => by cases e⟩
    · intro q hq
      simp only [List.mem_map, List.mem_range] at hq
      obtain ⟨i, hin, rfl⟩ := hq
      obtain ⟨s, z, h5, _, h6⟩ := hcell i hin
      rw [h5]
      exact h6
    · refine hlt (.cell a.block a.off) (List.mem_append_left _ (MemPlace.mem_row.2 ⟨0, by omega, by simp⟩))
    · intro j q hq
      rw [List.getElem?_map] at hq
      by_cases hj : j < n
      · rw [List.getElem?_range hj] at hq
        simp only [Option.map_some, Option.some.injEq] at hq
        subst hq
        obtain ⟨h2, h3, _, _⟩ := hi j (by omega)
        obtain ⟨s, z, h5, h6, _⟩ := hcell j hj
        rw [h2, h3, h5, h6]
        exact ⟨rfl, rfl⟩
      · rw [List.getElem?_eq_none (by simp; omega)] at hq
        cases hq
end Go.Proofs.Yteoggommgbajnaa.cnt
