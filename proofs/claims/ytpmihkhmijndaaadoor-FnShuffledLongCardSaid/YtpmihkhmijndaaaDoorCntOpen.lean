/- How a slice of impl.Scan that came in is read: its cells. -/
import Derived.Test.YtpmihkhmijndaaaDoorCntSpec
import Derived.Deep.SlicePairs
import Derived.SizedLaws
import Derived.Carry
namespace Go.Proofs.YtpmihkhmijndaaaDoor.cnt
open Go.ChangeShapes Go.WideShapes Go.ChangeAt Go.RowKit Go.Deep
def strOf : Value → ByteArray
  | .string s => s
  | _ => ⟨#[]⟩

theorem Rd.more {w : World} {B B' : Nat} {A : Option Addr} {n : Nat} {L : List (ByteArray × Int)} (h : Rd w B A n L) (hB : B ≤ B') : Rd w B' A n L :=
  ⟨h.1, h.2.1, fun hn => by
    obtain ⟨ad, e, hb, hc⟩ := h.2.2 hn
    exact ⟨ad, e, by omega, hc⟩⟩

theorem laidOut : laidOutB Tryd.prog = true := by kernel_rfl
theorem bytes43 : Tryd.prog.bytesOf 41 = 24 := by kernel_rfl

theorem open_scans {H : Type} {enc : TypeId × Value → H} {W : World} {r : Reach} {b0 : Nat} {v : Value} {d : DataW H} {p : List MemPlace} (hv : Value.okWide Tryd.prog W r b0 22 v)
    (h : DataW.Trod enc Tryd.prog W 0 (fun _ => true) true 22 v d p) (hlt : ∀ x ∈ p, x.block < W.heap.size)
    (hsz : ∀ (elems spare : List (DataW H)), d = .slice elems spare → (elems.length + spare.length) * 24 ≤ 140737488351232) :
    ∃ A n c L, v = .slice A n c ∧ Rd W W.heap.size A n L ∧ n * 24 ≤ 140737488351232 := by
  obtain ⟨A, n, c, rfl⟩ := okWide_slice Tryd.underlying22 hv
  obtain ⟨fuel, hf⟩ := h
  have hcs : (Value.slice A n c).cells.toList = [.slice A n c] := rfl
  rw [hcs] at hf
  rcases open_slice_pairs Tryd.underlying22 Tryd.underlying41 (by kernel_rfl) rfl rfl (by kernel_rfl) (by kernel_rfl) hf with ⟨h1, _⟩ | ⟨a, len, cap, m, f, V0, V1, D0, D1, P0, P1, h1, _, hlc, _, hm, hx, hi⟩
  · simp only [List.cons.injEq, Value.slice.injEq, and_true] at h1
    obtain ⟨rfl, rfl, rfl⟩ := h1
    exact ⟨none, 0, 0, [], rfl, ⟨rfl, by simp, fun h => absurd h (by omega)⟩, by omega⟩
  · simp only [List.cons.injEq, Value.slice.injEq, and_true] at h1
    obtain ⟨rfl, rfl, rfl⟩ := h1
    have hmc : m = c := by rw [hm]; rfl
    subst hmc
    simp only [Prod.mk.injEq] at hx
    obtain ⟨rfl, rfl⟩ := hx
    have hb := hsz _ _ rfl
    simp only [List.length_map, List.length_range] at hb
    have hcell : ∀ i, i < n → ∃ s z, V0 i = .string s ∧ V1 i = .int .i32 z ∧ s.size ≤ maxLen := by
      intro i hin
      obtain ⟨_, _, h3, h4⟩ := hi i (by omega)
      obtain ⟨s, hs1, _, hs2⟩ := DataW.trod_string Tryd.underlying9 h3
      obtain ⟨z, hz1, _, _⟩ := DataW.trod_int Tryd.underlying21 h4
      simp only [List.cons.injEq, and_true] at hs1 hz1
      exact ⟨s, z, hs1, hz1, hs2⟩
    refine ⟨some a, n, m, (List.range n).map fun i => (strOf (V0 i), intOf (V1 i)), rfl, ⟨by simp, ?_, fun hn => ⟨a, rfl, ?_, ?_⟩⟩, by omega⟩
    · intro q hq
      simp only [List.mem_map, List.mem_range] at hq
      obtain ⟨i, hin, rfl⟩ := hq
      obtain ⟨s, z, h5, _, h6⟩ := hcell i hin
      rw [h5]
      exact h6
    · refine hlt (.cell a.block a.off) (List.mem_append_left _ (MemPlace.mem_row.2 ⟨0, by omega, by simp⟩))
    · intro j q hq
      rw [List.getElem?_map] at hq
      by_cases hj : j < n
      · rw [List.getElem?_range hj] at hq
        simp only [Option.map_some, Option.some.injEq] at hq
        subst hq
        obtain ⟨h2, h3, _, _⟩ := hi j (by omega)
        obtain ⟨s, z, h5, h6, _⟩ := hcell j hj
        rw [h2, h3, h5, h6]
        exact ⟨rfl, rfl⟩
      · rw [List.getElem?_eq_none (by simp; omega)] at hq
        cases hq
end Go.Proofs.YtpmihkhmijndaaaDoor.cnt
