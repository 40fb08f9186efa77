/- What spec.index, laws.scans, spec.Counts and laws.same compute. -/
import Derived.Test.YtpmihkhmijndaaaDoorCntScanned
import Derived.Deep.QuietTactic
import Derived.BigQuiet
namespace Go.Proofs.YtpmihkhmijndaaaDoor.cnt
open Go.ChangeShapes Go.WideShapes Go.ChangeAt Go.RowKit

def indexOf (l : List UInt8) (c : Nat) : Int := match l.findIdx? (fun b => b.toNat == c) with | some k => (k : Int) | none => -1
theorem index_some {l : List UInt8} {c k : Nat} (hk : k < l.length) (he : (l.getD k 0).toNat = c) (hn : ∀ j, j < k → (l.getD j 0).toNat ≠ c) : indexOf l c = (k : Int) := by
  have : l.findIdx? (fun b => b.toNat == c) = some k := by
    rw [List.findIdx?_eq_some_iff_getElem]
    refine ⟨hk, ?_, fun j hj => ?_⟩
    · rw [List.getD_eq_getElem?_getD, List.getElem?_eq_getElem hk] at he
      simpa using he
    · have := hn j hj
      rw [List.getD_eq_getElem?_getD, List.getElem?_eq_getElem (by omega)] at this
      simpa using this
  unfold indexOf; rw [this]
theorem index_none {l : List UInt8} {c : Nat} (hn : ∀ j, j < l.length → (l.getD j 0).toNat ≠ c) : indexOf l c = -1 := by
  have : l.findIdx? (fun b => b.toNat == c) = none := by
    rw [List.findIdx?_eq_none_iff]
    intro x hx
    obtain ⟨j, hj, rfl⟩ := List.getElem_of_mem hx
    have := hn j hj
    rw [List.getD_eq_getElem?_getD, List.getElem?_eq_getElem hj] at this
    simpa using this
  unfold indexOf; rw [this]
theorem ret_int {k : IntKind} {a b : Int} (h : a = b) : Ending.returned (.int k a) = .returned (.int k b) := by rw [h]

theorem index_any (s : ByteArray) (hs : s.size ≤ 9223372036854775807) (c : Nat) (w : World) :
    Calls Tryd.prog 15 #[.string s, .int .u8 (c : Int)] w fun e w' => e = .returned (.int .i64 (indexOf s.data.toList c)) ∧ w = w' := by
  go_enter Tryd.func15, Tryd.ntmps15
  go_wp2
  go_loop [8] (fun i => ∃ k : Nat, k ≤ s.size ∧ i = .int .i64 (k : Int) ∧ Hid (∀ j, j < k → (s.data.toList.getD j 0).toNat ≠ c)) (fun i => s.size - (intOf i).toNat)
  case atStart => exact ⟨0, Nat.zero_le _, rfl, fun j hj => absurd hj (by omega)⟩
  case round =>
    obtain ⟨k, hk, rfl, hno⟩ := hrel
    by_cases hlt : k < s.size
    · by_cases he : (s[k]'hlt).toNat = c
      · have HI := Lib.hid (index_some (l := s.data.toList) (c := c) (k := k) (by rw [ens.len_eq]; exact hlt) (by rw [← ens.getD_eq s k hlt]; exact he) hno.out)
        have hq : (((s[k]'hlt).toNat : Int) == (c : Int)) = true := by simp [he]
        clear he
        go_wp2
        go_ret
        exact ⟨ret_int HI.out.symm, rfl⟩
      · have hq : (((s[k]'hlt).toNat : Int) == (c : Int)) = false := by simp; omega
        have HN : Hid (∀ j, j < k + 1 → (s.data.toList.getD j 0).toNat ≠ c) := by
          intro j hj
          by_cases e : j = k
          · subst e; rw [← ens.getD_eq s j hlt]; exact he
          · exact hno.out j (by omega)
        clear he hno
        go_wp2
        go_round
        case rel => exact ⟨k + 1, by omega, by go_num, HN⟩
        case measure => simp [intOf]; omega
    · obtain rfl : k = s.size := by omega
      have HI := Lib.hid (index_none (l := s.data.toList) (c := c) (fun j hj => hno.out j (by rw [ens.len_eq] at hj; exact hj)))
      clear hno
      go_wp2
      go_ret
      exact ⟨ret_int HI.out.symm, rfl⟩

def tail64 : ByteArray := ⟨#[97, 98, 99, 100, 101, 102, 103, 104, 105, 106, 107, 108, 109, 110, 111, 112, 113, 114, 115, 116, 117, 118, 119, 120, 121, 122, 65, 66, 67, 68, 69, 70, 71, 72, 73, 74, 75, 76, 77, 78, 79, 80, 81, 82, 83, 84, 85, 86, 87, 88, 89, 90, 48, 49, 50, 51, 52, 53, 54, 55, 56, 57, 95, 36]⟩
def idxI (c : Nat) : Int := match idx c with | some k => (k : Int) | none => -1
theorem tail_idx (c : Nat) (h : c < 256) : indexOf tail64.data.toList c = idxI c := by
  have : ∀ x : Fin 256, indexOf tail64.data.toList x.1 = idxI x.1 := by decide +kernel
  exact this ⟨c, h⟩

def flat (L : List (ByteArray × Int)) : List Value := L.flatMap fun p => [.string p.1, .int .i32 p.2]
theorem flat_len (L : List (ByteArray × Int)) : (flat L).length = L.length * 2 := by
  induction L with
  | nil => rfl
  | cons p L ih => simp only [flat, List.flatMap_cons, List.length_append, List.length_cons, List.length_nil] at ih ⊢; omega
theorem flat_snoc {L : List (ByteArray × Int)} {k : Nat} {p : ByteArray × Int} (h : L[k]? = some p) : flat (L.take (k + 1)) = flat (L.take k) ++ [.string p.1, .int .i32 p.2] := by
  obtain ⟨hl, rfl⟩ := List.getElem?_eq_some_iff.1 h
  rw [List.take_succ_eq_append_getElem hl]
  unfold flat
  rw [List.flatMap_append]
  rfl
theorem flat_at {L : List (ByteArray × Int)} {j : Nat} {p : ByteArray × Int} (h : L[j]? = some p) : (flat L)[j * 2]? = some (.string p.1) ∧ (flat L)[j * 2 + 1]? = some (.int .i32 p.2) := by
  induction L generalizing j with
  | nil => simp at h
  | cons q L ih =>
    cases j with
    | zero => simp at h; subst h; simp [flat]
    | succ j =>
      have := ih (j := j) (by simpa using h)
      have e1 : (j + 1) * 2 = j * 2 + 1 + 1 := by omega
      simpa [flat, e1] using this

theorem info41 : (Tryd.prog.info? 39).map (fun i => (i.zero, i.size, i.bytes)) = some (some (.agg #[.string ⟨#[]⟩, .int .i32 0]), 2, 24) := by kernel_rfl

theorem cells2 (W : World) (o : Obj) (a b : Value) : ∀ j u, [a, b][j]? = some u → ((W.alloc o).alloc (.cells #[a, b] 39)).cell? ((⟨W.heap.size + 1, 0, none⟩ : Addr).add j) = some u := by
  intro j u hu
  have hb : Blk ((W.alloc o).alloc (.cells #[a, b] 39)) (W.heap.size + 1) 39 #[a, b] := by
    have := Blk.new (W.alloc o) 39 #[a, b]
    simpa using this
  have hadd : (⟨W.heap.size + 1, 0, none⟩ : Addr).add j = ⟨W.heap.size + 1, j, none⟩ := by unfold Addr.add; split <;> simp_all
  rw [hadd, hb.cell j, ← hu]
  simp
theorem rd_of_own {w' : World} {B : Nat} {v : Value} {n : Nat} {L : List (ByteArray × Int)} (h : w'.ownsRow B 39 2 v n (flat L)) (hl : L.length = n) (hs : ∀ p ∈ L, p.1.size ≤ 9223372036854775807) :
    ∃ A c, v = .slice A n c ∧ Rd w' w'.heap.size A n L := by
  rcases h.2 with ⟨rfl, rfl⟩ | ⟨g, cap, cur, rfl, hg, hh, _⟩
  · exact ⟨_, _, rfl, hl, hs, fun h => absurd h (by omega)⟩
  · refine ⟨_, _, rfl, hl, hs, fun _ => ⟨_, rfl, (Array.getElem?_eq_some_iff.1 hh).1, fun j p hp => ?_⟩⟩
    obtain ⟨h1, h2⟩ := flat_at hp
    exact ⟨h.cells (g := g) rfl _ _ h1, h.cells (g := g) rfl _ _ h2⟩

def RelT (n : Nat) (L : List (ByteArray × Int)) (w : World) (v i : Value) (wr : World) : Prop :=
  ∃ k : Nat, k ≤ n ∧ i = .int .i64 (k : Int) ∧ wr.ownsRow w.heap.size 39 2 v k (flat (L.take k)) ∧ Below w.heap.size w wr
def RetScans (n : Nat) (L : List (ByteArray × Int)) (w : World) (e : Ending) (w' : World) : Prop := ∃ v, e = .returned v ∧ w'.ownsRow w.heap.size 39 2 v n (flat L) ∧ Below w.heap.size w w'

set_option maxHeartbeats 1000000 in
theorem scans_any (A : Option Addr) (n c : Nat) (L : List (ByteArray × Int)) (hn : n * 24 ≤ 140737488355328) (w : World) (hr : Rd w w.heap.size A n L) :
    Calls Tryd.prog 9 #[.slice A n c] w (RetScans n L w) := by
  obtain ⟨i0, hi, hz0, hz1, hz2⟩ := info_parts info41
  go_enter Tryd.func9, Tryd.ntmps9
  go_wp2
  go_loopw [3, 8] (fun v i wr => RelT n L w v i wr) (fun _ i _ => n - (intOf i).toNat)
  case atStart => exact ⟨0, Nat.zero_le _, rfl, ⟨rfl, Or.inl ⟨rfl, rfl⟩⟩, Below.refl _ _⟩
  case round =>
    obtain ⟨k, hk, rfl, hown, hbw⟩ := hrel
    by_cases hlt : k < n
    · obtain ⟨ad, s, d, rfl, hB, hx, hs, hc1, hc2⟩ := (hr.below hbw).at_ hlt
      have HT := Lib.hid (flat_snoc hx)
      have hsz : w.heap.size ≤ wr.heap.size := hbw.size
      clear hr hx
      go_wp2_with (at_builtin; refine wpList_append_own _ rfl (.tmp 12) (.tmp 14) 28 rfl w.heap.size 39 i0 (.agg #[.string ⟨#[]⟩, .int .i32 0]) 2 24 Tryd.underlying28 hi hz0 hz1 hz2 rfl (by decide) _ k (flat (L.take k)) rfl ((hown.alloc _).alloc _) ⟨wr.heap.size + 1, 0, none⟩ 1 1 [.string s, .int .i32 d] rfl rfl (cells2 _ _ _ _) (by intro u hu; simp at hu; rcases hu with rfl | rfl <;> rfl) (by unfold maxLen; omega) (by omega) (by simp; omega) ?_; intro v2 w2 hown2 hgrow2 _)
      have hbw2 : Below w.heap.size w w2 := ((hbw.alloc hsz _).alloc (by simp; omega) _).grown hgrow2 (by simp; omega) fun j e => (hown.lt j e).1
      go_roundw
      case rel => exact ⟨k + 1, by omega, by go_num, by rw [HT.out]; exact hown2, hbw2⟩
      case measure => simp [intOf]; omega
    · obtain rfl : k = n := by omega
      have hall : L.take k = L := List.take_of_length_le (by rw [hr.1]; exact Nat.le_refl _)
      rw [hall] at hown
      clear hall hr
      go_wp2
      go_ret
      exact ⟨_, rfl, hown, hbw⟩

theorem idx_some (c k : Nat) (h : c < 256) (hk : idx c = some k) (w : World) :
    Calls Tryd.prog 15 #[.string tail64, .int .u8 (c : Int)] w fun e w' => e = .returned (.int .i64 (k : Int)) ∧ w = w' := by
  have := index_any tail64 (by decide) c w
  rw [tail_idx c h] at this
  unfold idxI at this
  rw [hk] at this
  exact this
theorem idx_none (c : Nat) (h : c < 256) (hk : idx c = none) (w : World) :
    Calls Tryd.prog 15 #[.string tail64, .int .u8 (c : Int)] w fun e w' => e = .returned (.int .i64 (-1)) ∧ w = w' := by
  have := index_any tail64 (by decide) c w
  rw [tail_idx c h] at this
  unfold idxI at this
  rw [hk] at this
  exact this

def RelD (n : Nat) (L : List (ByteArray × Int)) (w : World) (i : Value) (wr : World) : Prop :=
  ∃ k : Nat, k ≤ n ∧ i = .int .i64 (k : Int) ∧ Blk wr w.heap.size 21 (arr (all z64 (L.take k))) ∧ Below w.heap.size w wr

theorem own_of_blk {w : World} {g B : Nat} {cs : List Int} (h : Blk w g 21 (arr cs)) (hl : cs.length = 64) (hB : B ≤ g) : w.ownsRow B 21 1 (.slice (some ⟨g, 0, none⟩) 64 64) 64 (ic cs) := by
  refine ⟨by rw [ic_len, hl], Or.inr ⟨g, 64, arr cs, rfl, hB, h, Nat.le_refl _, by decide, by rw [arr_size, hl], ?_⟩⟩
  have : (arr cs).toList = ic cs := by simp [arr, ic]
  rw [this, List.take_of_length_le (by rw [ic_len, hl]; decide)]

theorem mk64 (w : World) : (Instr.makeSlice 26 (.int .i64 64) (.int .i64 64)).run Tryd.prog w = .ok (.slice (some ⟨w.heap.size, 0, none⟩) 64 64) (w.alloc (.cells (arr z64) 21)) := by kernel_rfl

set_option maxRecDepth 100000 in
set_option maxHeartbeats 2000000 in
theorem specCounts_any (A : Option Addr) (n c : Nat) (L : List (ByteArray × Int)) (hn : n ≤ 140737488355328) (w : World) (hr : Rd w w.heap.size A n L) :
    Calls Tryd.prog 8 #[.slice A n c] w (RetRow (all z64 L) w) := by
  have hmk := mk64
  go_enter Tryd.func8, Tryd.ntmps8
  go_wp2
  go_loopw [11] (fun i wr => RelD n L w i wr) (fun i _ => n - (intOf i).toNat)
  case atStart => exact ⟨0, Nat.zero_le _, rfl, Blk.new w 21 (arr z64), (Below.refl _ _).alloc (Nat.le_refl _) _⟩
  case round =>
    obtain ⟨k, hk, rfl, hb1, hbw⟩ := hrel
    by_cases hlt : k < n
    · obtain ⟨ad, s, d, rfl, hB, hx, hs, hc1, hc2⟩ := (hr.below hbw).at_ hlt
      have hln : (all z64 (L.take k)).length = 64 := (all_len _ _).trans z64_len
      have hsz := hb1.lt
      have HT := Lib.hid (take_at hx)
      have HLN := Lib.hid hln
      clear hln hx hr
      generalize all z64 (L.take k) = cur at *
      obtain ⟨wo, rfl⟩ : ∃ wo : World, wo = wr := ⟨_, rfl⟩
      go_wp2_with fail
      have HB0 := Lib.hid (hb1.alloc (.cells #[.string s, .int .i32 d] 39))
      have HX := Lib.hid (Blk.new wo 39 #[.string s, .int .i32 d])
      have hbw0 := hbw.alloc (by omega) (.cells #[.string s, .int .i32 d] 39)
      clear hb1 hbw hc1 hc2
      generalize wo.alloc (.cells #[.string s, .int .i32 d] 39) = W0 at *
      go_loopw [18] (fun i W => RelS s d cur w.heap.size 21 W0 i W) (fun i _ => s.size - (intOf i).toNat)
      case atStart => exact ⟨0, Nat.zero_le _, rfl, HB0.out, Only.refl _ _⟩
      case round =>
        obtain ⟨pos, hpos, rfl, hbk, ho⟩ := hrel
        have HX2 := Lib.hid (HX.out.only ho (by omega))
        clear HB0
        by_cases hp : pos < s.size
        · have hln : (scanL d cur (s.data.toList.take pos)).length = 64 := (scan_len _ _ _).trans HLN.out
          have R1 := fun (k : Nat) (hk : idx (s[pos]'hp).toNat = some k) => @relS_one s d cur w.heap.size 21 W0 wr pos hp k hk hbk ho
          have R0 := fun (hk : idx (s[pos]'hp).toNat = none) => @relS_none s d cur w.heap.size 21 W0 wr pos hp hk hbk ho
          have HR0 := Lib.hid R0
          have HR1 := Lib.hid R1
          have hx0 := HX2.out.cell 0
          have hx1 := HX2.out.cell 1
          simp only [List.getElem?_toArray, List.getElem?_cons_zero, List.getElem?_cons_succ] at hx0 hx1
          have h256 : (s[pos]'hp).toNat < 256 := (s[pos]'hp).toNat_lt
          have hcell := fun (k : Nat) (h : k < 64) => (hbk.cell k).trans (arr_get _ k (by rw [hln]; exact h))
          have HC := Lib.hid hcell
          have HF := Lib.hid hbk.frozen
          clear hln R0 R1 hcell
          generalize scanL d cur (s.data.toList.take pos) = now at *
          cases hi : idx (s[pos]'hp).toNat with
          | none =>
            have HI := Lib.hid (fun W => idx_none _ h256 hi W)
            have H3 := Lib.hid hi
            clear hi hbk
            go_wp2_with (go_at_call 15; refine (HI.out _).mono ?_; rintro e w' ⟨rfl, rfl⟩)
            exact ⟨HR0.out H3.out (by go_num), by simp [intOf]; omega⟩
          | some q =>
            have HI := Lib.hid (fun W => idx_some _ q h256 hi W)
            have H3 := Lib.hid hi
            have hq := idx_lt hi
            have hc := HC.out q hq
            have hf := HF.out q
            clear hi hbk
            go_wp2_with (go_at_call 15; refine (HI.out _).mono ?_; rintro e w' ⟨rfl, rfl⟩)
            go_region
            go_wp2
            exact ⟨(HR1.out _ H3.out (by go_num) (by simp)).drew, by simp [intOf]; omega⟩
        · obtain rfl : pos = s.size := by omega
          have hall : s.data.toList.take s.size = s.data.toList := List.take_of_length_le (by rw [ens.len_eq]; exact Nat.le_refl _)
          rw [hall] at hbk
          have hbw2 := hbw0.trans (ho.below (Nat.le_refl _))
          clear hall ho
          go_wp2
          go_roundw
          case rel => exact ⟨k + 1, by omega, by go_num, by rw [HT.out]; exact hbk, hbw2⟩
          case measure => simp [intOf]; omega
    · obtain rfl : k = n := by omega
      have hall : L.take k = L := List.take_of_length_le (by rw [hr.1]; exact Nat.le_refl _)
      rw [hall] at hb1
      have HLN := Lib.hid ((all_len z64 L).trans z64_len)
      clear hall hr
      go_wp2
      go_ret
      exact ⟨_, rfl, own_of_blk hb1 HLN.out (Nat.le_refl _), hbw⟩

end Go.Proofs.YtpmihkhmijndaaaDoor.cnt
