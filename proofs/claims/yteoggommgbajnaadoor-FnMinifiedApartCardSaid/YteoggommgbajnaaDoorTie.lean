/-
  DERIVED. GIVEN WITH THE SEED: THE PROGRAM's TIES (one call each: nine closed facts by the kernel) AND EACH ROW's TIE, after the 31st guide's Derived/Test/Toyas{Tie, Card}.lean. No idea stands in it: it is a product of the set-up. Laid BY PROGRAM, IN A SANDBOX (cutbox-door.mjs). By AI agents, Wed Nov 11 2026. No macro, syntax, notation, axiom, sorry.
-/
import Derived.Test.YteoggommgbajnaaDoorRows
import Derived.LaidByTextLater
import Derived.SevenTiedAt
import Derived.LaidSub
import Derived.LaidOnce
namespace Go.Proofs.YteoggommgbajnaaDoor
open Go
set_option maxRecDepth 100000
theorem seatTie1 : Tryd.prog.laidByTextLater [("nameplough/pub/esbuild/inner/ast.DefaultNameMinifierJS", Rows.laid_nameplough_pub_esbuild_inner_ast_DefaultNameMinifierJS), ("nameplough/pub/esbuild/inner/ast.DefaultNameMinifierCSS", Rows.laid_nameplough_pub_esbuild_inner_ast_DefaultNameMinifierCSS)] [.wider, .data] true :=
  Program.laidByTextLater_by_one 19 8 3 (by kernel_rfl) (by kernel_rfl) (by kernel_rfl) (by kernel_rfl) (by kernel_rfl) (by kernel_rfl) (fun _ _ => by kernel_rfl)
theorem noOwnUnsafe : Tryd.pinned.checked.prog.headLifts.contains "ownunsafe" = false := by kernel_rfl
theorem tie : Tryd.prog.laidByTextLater [("nameplough/pub/esbuild/inner/ast.DefaultNameMinifierJS", Rows.laid_nameplough_pub_esbuild_inner_ast_DefaultNameMinifierJS), ("nameplough/pub/esbuild/inner/ast.DefaultNameMinifierCSS", Rows.laid_nameplough_pub_esbuild_inner_ast_DefaultNameMinifierCSS)] [.wider, .data] true :=
  Program.laidByTextLater.sub seatTie1 ["nameplough/pub/esbuild/inner/ast.DefaultNameMinifierJS", "nameplough/pub/esbuild/inner/ast.DefaultNameMinifierCSS"] (by kernel_rfl) (by kernel_rfl)
theorem fnName_row_tie : Rows.fnNameRow.laidByTextAt .later Tryd.pinned [.wider, .data] true :=
  OpenClaim.laidByTextAt_later rfl rfl tie noOwnUnsafe
theorem fnNames_row_tie : Rows.fnNamesRow.laidByTextAt .later Tryd.pinned [.wider, .data] true :=
  OpenClaim.laidByTextAt_later rfl rfl tie noOwnUnsafe
theorem fnNamesApart_row_tie : Rows.fnNamesApartRow.laidByTextAt .later Tryd.pinned [.wider, .data] true :=
  OpenClaim.laidByTextAt_later rfl rfl tie noOwnUnsafe
theorem fnNamesLonger_row_tie : Rows.fnNamesLongerRow.laidByTextAt .later Tryd.pinned [.wider, .data] true :=
  OpenClaim.laidByTextAt_later rfl rfl tie noOwnUnsafe
theorem fnMinified_row_tie : Rows.fnMinifiedRow.laidByTextAt .later Tryd.pinned [.wider, .data] true :=
  OpenClaim.laidByTextAt_later rfl rfl tie noOwnUnsafe
theorem tie2 : Tryd.prog.laidByTextLater [("nameplough/pub/esbuild/inner/ast.DefaultNameMinifierJS", Rows.laid_nameplough_pub_esbuild_inner_ast_DefaultNameMinifierJS)] [.wider] true :=
  Program.laidByTextLater.sub seatTie1 ["nameplough/pub/esbuild/inner/ast.DefaultNameMinifierJS"] (by kernel_rfl) (by kernel_rfl)
theorem fnMinifiedApart_row_tie : Rows.fnMinifiedApartRow.laidByTextAt .later Tryd.pinned [.wider] true :=
  OpenClaim.laidByTextAt_later rfl rfl tie2 noOwnUnsafe
theorem fnNameUpto_row_tie : Rows.fnNameUptoRow.laidByTextAt .later Tryd.pinned [.wider, .data] true :=
  OpenClaim.laidByTextAt_later rfl rfl tie noOwnUnsafe
theorem fnNamesUpto_row_tie : Rows.fnNamesUptoRow.laidByTextAt .later Tryd.pinned [.wider, .data] true :=
  OpenClaim.laidByTextAt_later rfl rfl tie noOwnUnsafe
theorem fnNamesApartUpto_row_tie : Rows.fnNamesApartUptoRow.laidByTextAt .later Tryd.pinned [.wider, .data] true :=
  OpenClaim.laidByTextAt_later rfl rfl tie noOwnUnsafe
theorem fnNamesLongerUpto_row_tie : Rows.fnNamesLongerUptoRow.laidByTextAt .later Tryd.pinned [.wider, .data] true :=
  OpenClaim.laidByTextAt_later rfl rfl tie noOwnUnsafe
theorem fnMinifiedApartUpto_row_tie : Rows.fnMinifiedApartUptoRow.laidByTextAt .later Tryd.pinned [.wider] true :=
  OpenClaim.laidByTextAt_later rfl rfl tie2 noOwnUnsafe
theorem fnMinifiedUpto_row_tie : Rows.fnMinifiedUptoRow.laidByTextAt .later Tryd.pinned [.wider, .data] true :=
  OpenClaim.laidByTextAt_later rfl rfl tie noOwnUnsafe
end Go.Proofs.YteoggommgbajnaaDoor
