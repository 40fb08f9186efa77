/- What the rows' lists give the walks: the cells of the two package variables; and the world of the witness. -/
import Derived.Test.YtpmihkhmijndaaaDoorFrom
import Derived.Test.YtpmihkhmijndaaaDoorCards
import Derived.Test.YtpmihkhmijndaaaDoorTie
import Derived.ProofKit
import Derived.LaidMore
import Derived.OpenShut
import Derived.Stop.Joined
import Derived.SizedLaws
import Derived.ChangeSame
namespace Go.Proofs.YtpmihkhmijndaaaDoor.nm
open Go.ChangeShapes Go.WideShapes Go.ChangeAt Go.WideMaps Go.WideElems Go.RowKit

theorem own : ownKnob Tryd.prog.godebug = none := by kernel_rfl
theorem gJS : Tryd.prog.globalNamed "nameplough/pub/esbuild/inner/ast.DefaultNameMinifierJS" = some 1 := by kernel_rfl
theorem gCSS : Tryd.prog.globalNamed "nameplough/pub/esbuild/inner/ast.DefaultNameMinifierCSS" = some 0 := by kernel_rfl
theorem tJS : (Tryd.prog.globals[1]?).map (·.type) = some 43 := by kernel_rfl
theorem tCSS : (Tryd.prog.globals[0]?).map (·.type) = some 43 := by kernel_rfl
theorem cells33 : Tryd.prog.cellsOf 43 = 2 := by kernel_rfl
theorem cells9 : Tryd.prog.cellsOf 9 = 1 := by kernel_rfl

theorem read2 {H : Type} {enc : TypeId × Value → H} {W : World} {base : Nat} {spare : Nat → Bool} {held : Bool} {fuel : Nat} {cs : Array Value} {d : DataW H} {p : List MemPlace} {a b : ByteArray}
    (h : DataW.trod enc Tryd.prog W base spare held fuel 43 cs.toList = some (d, p)) (hd : d = .agg [.lit (.string a.data.toList), .lit (.string b.data.toList)]) : cs[0]? = some (.string a) ∧ cs[1]? = some (.string b) := by
  obtain ⟨y0, y1, n, hx, hl, h0, h1⟩ := trod_struct2 Tryd.underlying43 h
  obtain ⟨l⟩ := cs
  rw [cells33] at hl
  match l, hl, h0, h1 with
  | [u0, u1], _, h0, h1 =>
    obtain ⟨s0, hs0, e0, _⟩ := DataW.trod_string Tryd.underlying9 h0
    obtain ⟨s1, hs1, e1, _⟩ := DataW.trod_string Tryd.underlying9 h1
    simp [cells9] at hs0 hs1
    subst hs0; subst hs1
    simp only [Prod.mk.injEq] at hx
    rw [hd, e0, e1] at hx
    simp at hx
    have ea : a = s0 := by cases a; cases s0; exact congrArg ByteArray.mk hx.1.1
    have eb : b = s1 := by cases b; cases s1; exact congrArg ByteArray.mk hx.1.2
    subst ea; subst eb
    exact ⟨rfl, rfl⟩

theorem of_two {W : World} (h : laidMetH Tryd.prog [("nameplough/pub/esbuild/inner/ast.DefaultNameMinifierJS", Rows.laid_nameplough_pub_esbuild_inner_ast_DefaultNameMinifierJS), ("nameplough/pub/esbuild/inner/ast.DefaultNameMinifierCSS", Rows.laid_nameplough_pub_esbuild_inner_ast_DefaultNameMinifierCSS)] W) (css : Bool) : Laid css W := by
  rw [MakeChecks.laidMetH_plain _ _ _ (by kernel_rfl)] at h
  obtain ⟨ps, ⟨g0, t0, cs0, f0, p0, q0, hg0, ht0, hv0, hd0, ⟨g1, t1, cs1, f1, p1, q1, hg1, ht1, hv1, hd1, _, _⟩, _⟩, _, _⟩ := h
  obtain rfl := Option.some.inj (gJS.symm.trans hg0)
  obtain rfl := Option.some.inj (gCSS.symm.trans hg1)
  obtain rfl := Option.some.inj (tJS.symm.trans ht0)
  obtain rfl := Option.some.inj (tCSS.symm.trans ht1)
  cases css with
  | false =>
    obtain ⟨a, b⟩ := read2 (a := headB false) (b := tailB false) hd0 rfl
    exact ⟨(World.var?_cell hg0 hv0 0).trans a, (World.var?_cell hg0 hv0 1).trans b⟩
  | true =>
    obtain ⟨a, b⟩ := read2 (a := headB true) (b := tailB true) hd1 rfl
    exact ⟨(World.var?_cell hg1 hv1 0).trans a, (World.var?_cell hg1 hv1 1).trans b⟩
theorem of_one {W : World} (h : laidMetH Tryd.prog [("nameplough/pub/esbuild/inner/ast.DefaultNameMinifierJS", Rows.laid_nameplough_pub_esbuild_inner_ast_DefaultNameMinifierJS)] W) : Laid false W := by
  rw [MakeChecks.laidMetH_plain _ _ _ (by kernel_rfl)] at h
  obtain ⟨ps, ⟨g0, t0, cs0, f0, p0, q0, hg0, ht0, hv0, hd0, _, _⟩, _, _⟩ := h
  obtain rfl := Option.some.inj (gJS.symm.trans hg0)
  obtain rfl := Option.some.inj (tJS.symm.trans ht0)
  obtain ⟨a, b⟩ := read2 (a := headB false) (b := tailB false) hd0 rfl
  exact ⟨(World.var?_cell hg0 hv0 0).trans a, (World.var?_cell hg0 hv0 1).trans b⟩

theorem met_two (os : Os) (args : Array Value) : laidMetH Tryd.prog [("nameplough/pub/esbuild/inner/ast.DefaultNameMinifierJS", Rows.laid_nameplough_pub_esbuild_inner_ast_DefaultNameMinifierJS), ("nameplough/pub/esbuild/inner/ast.DefaultNameMinifierCSS", Rows.laid_nameplough_pub_esbuild_inner_ast_DefaultNameMinifierCSS)] ((World.doorLaid Tryd.prog 400 os).forCall (fun _ _ => 0) ⟨#[], args, []⟩).memory :=
  laidMetH_of_parts3 (fuel := 8) (laidMet_of_run' 8 (by kernel_rfl) (by kernel_rfl)) (by kernel_rfl) (by kernel_rfl)
theorem met_one (os : Os) (args : Array Value) : laidMetH Tryd.prog [("nameplough/pub/esbuild/inner/ast.DefaultNameMinifierJS", Rows.laid_nameplough_pub_esbuild_inner_ast_DefaultNameMinifierJS)] ((World.doorLaid Tryd.prog 400 os).forCall (fun _ _ => 0) ⟨#[], args, []⟩).memory :=
  laidMetH_of_parts3 (fuel := 8) (laidMet_of_run' 8 (by kernel_rfl) (by kernel_rfl)) (by kernel_rfl) (by kernel_rfl)
theorem shaped (os : Os) (args : Array Value) : ((World.doorLaid Tryd.prog 400 os).forCall (fun _ _ => 0) ⟨#[], args, []⟩).Shaped Tryd.prog := World.shaped_of_RefB (by kernel_rfl) (by kernel_rfl)
end Go.Proofs.YtpmihkhmijndaaaDoor.nm
