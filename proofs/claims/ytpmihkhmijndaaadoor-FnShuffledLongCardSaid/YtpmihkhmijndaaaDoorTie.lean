/-
  DERIVED. GIVEN WITH THE SEED: THE PROGRAM's TIES (one call each: nine closed facts by the kernel) AND EACH ROW's TIE, after the 31st guide's Derived/Test/Toyas{Tie, Card}.lean. No idea stands in it: it is a product of the set-up. Laid BY PROGRAM, IN A SANDBOX (cutbox-door.mjs). By AI agents, Wed Nov 11 2026. No macro, syntax, notation, axiom, sorry.
-/
import Derived.Test.YtpmihkhmijndaaaDoorRows
import Derived.LaidByTextLater
import Derived.SevenTiedAt
import Derived.LaidSub
import Derived.LaidOnce
namespace Go.Proofs.YtpmihkhmijndaaaDoor
open Go
set_option maxRecDepth 100000
theorem seatTie1 : Tryd.prog.laidByTextLater [("nameplough/pub/esbuild/inner/ast.DefaultNameMinifierJS", Rows.laid_nameplough_pub_esbuild_inner_ast_DefaultNameMinifierJS), ("nameplough/pub/esbuild/inner/ast.DefaultNameMinifierCSS", Rows.laid_nameplough_pub_esbuild_inner_ast_DefaultNameMinifierCSS)] [.wider, .data] true :=
  Program.laidByTextLater_by_one 19 8 3 (by kernel_rfl) (by kernel_rfl) (by kernel_rfl) (by kernel_rfl) (by kernel_rfl) (by kernel_rfl) (fun _ _ => by kernel_rfl)
theorem noOwnUnsafe : Tryd.pinned.checked.prog.headLifts.contains "ownunsafe" = false := by kernel_rfl
theorem tie : Tryd.prog.laidByTextLater [("nameplough/pub/esbuild/inner/ast.DefaultNameMinifierJS", Rows.laid_nameplough_pub_esbuild_inner_ast_DefaultNameMinifierJS), ("nameplough/pub/esbuild/inner/ast.DefaultNameMinifierCSS", Rows.laid_nameplough_pub_esbuild_inner_ast_DefaultNameMinifierCSS)] [.wider, .data] true :=
  Program.laidByTextLater.sub seatTie1 ["nameplough/pub/esbuild/inner/ast.DefaultNameMinifierJS", "nameplough/pub/esbuild/inner/ast.DefaultNameMinifierCSS"] (by kernel_rfl) (by kernel_rfl)
theorem fnShuffled_row_tie : Rows.fnShuffledRow.laidByTextAt .later Tryd.pinned [.wider, .data] true :=
  OpenClaim.laidByTextAt_later rfl rfl tie noOwnUnsafe
theorem fnShuffledApart_row_tie : Rows.fnShuffledApartRow.laidByTextAt .later Tryd.pinned [.wider, .data] true :=
  OpenClaim.laidByTextAt_later rfl rfl tie noOwnUnsafe
theorem fnShuffledLong_row_tie : Rows.fnShuffledLongRow.laidByTextAt .later Tryd.pinned [.wider, .data] true :=
  OpenClaim.laidByTextAt_later rfl rfl tie noOwnUnsafe
theorem fnShuffledUpto_row_tie : Rows.fnShuffledUptoRow.laidByTextAt .later Tryd.pinned [.wider, .data] true :=
  OpenClaim.laidByTextAt_later rfl rfl tie noOwnUnsafe
theorem fnShuffledApartUpto_row_tie : Rows.fnShuffledApartUptoRow.laidByTextAt .later Tryd.pinned [.wider, .data] true :=
  OpenClaim.laidByTextAt_later rfl rfl tie noOwnUnsafe
theorem fnShuffledLongUpto_row_tie : Rows.fnShuffledLongUptoRow.laidByTextAt .later Tryd.pinned [.wider, .data] true :=
  OpenClaim.laidByTextAt_later rfl rfl tie noOwnUnsafe
end Go.Proofs.YtpmihkhmijndaaaDoor
