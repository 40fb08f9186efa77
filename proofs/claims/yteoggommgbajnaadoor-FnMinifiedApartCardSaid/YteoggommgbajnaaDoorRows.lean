/-
  NARROWER THAN 'FOR EVERY INPUT', by the rows' own cells (each row's printed sentence says how): FnName: laid · FnNames: laid · FnNamesApart: laid · FnNamesLonger: laid · FnMinifiedApart: laid · FnMinified: laid.
  DERIVED. THE GIVEN ROWS OF THIS SEAT. 6 by the template 'for every input the law returns true; each argument reads behind the call as it read before'; 0 by the template 'total and deterministic' (their statements: YteoggommgbajnaaDoorTotals.lean).
  GIVEN WITH THE SEED: the statements are not yours to turn. If you find one false, say at which input.
  Laid BY PROGRAM, IN A SANDBOX (cutbox-rows.mjs): the forced cells as the released guide's own fill.sh prints them over the translation b6b4a595deb2dc3e… (all of the seat's roots in one cut). By AI agents, Wed Nov 11 2026. No macro, syntax, notation, axiom, sorry.
-/
import Derived.Test.YteoggommgbajnaaDoorChecked
import GoSem.Claim
import GoSem.ClaimJoined
import GoSem.ClaimMapViews
import Derived.JoinedTies
import Derived.KernelRfl
namespace Go.Proofs.YteoggommgbajnaaDoor
/- THE CELL 'sum', in the pinned program and in every row, IS THE sha256 OF THE DUMP (.gsa) THAT YteoggommgbajnaaDoorProg.lean LOADS. Nothing in Lean hashes anything: it is a label: what it is worth is what the hold of that sum in a sandbox is worth. -/
noncomputable def Tryd.pinned : Pinned := { name := "yteoggommgbajnaadoor", sum := "b6b4a595deb2dc3ed9e90603366f00e1817593bd4ba53f83f2f83adf398740cb", checked := Tryd.checked }
namespace Rows
def none {H : Type} : Left H := { results := [], args := [] }

/- WHAT THE LISTED PACKAGE-LEVEL VARIABLES READ AS WHEN THE CALL BEGINS. Each datum BY PROGRAM (the guide's laid-datum.mjs) off the statement by which the dump's own 'gosem.cut.vars' lays the variable. In a bare row this is a premise. The card (YteoggommgbajnaaDoorCards.lean) ties it to the program's text. -/
def laid_nameplough_pub_esbuild_inner_ast_DefaultNameMinifierJS {H : Type} : DataW H := .agg [.lit (.string [97, 98, 99, 100, 101, 102, 103, 104, 105, 106, 107, 108, 109, 110, 111, 112, 113, 114, 115, 116, 117, 118, 119, 120, 121, 122, 65, 66, 67, 68, 69, 70, 71, 72, 73, 74, 75, 76, 77, 78, 79, 80, 81, 82, 83, 84, 85, 86, 87, 88, 89, 90, 95, 36]), .lit (.string [97, 98, 99, 100, 101, 102, 103, 104, 105, 106, 107, 108, 109, 110, 111, 112, 113, 114, 115, 116, 117, 118, 119, 120, 121, 122, 65, 66, 67, 68, 69, 70, 71, 72, 73, 74, 75, 76, 77, 78, 79, 80, 81, 82, 83, 84, 85, 86, 87, 88, 89, 90, 48, 49, 50, 51, 52, 53, 54, 55, 56, 57, 95, 36])]
def laid_nameplough_pub_esbuild_inner_ast_DefaultNameMinifierCSS {H : Type} : DataW H := .agg [.lit (.string [97, 98, 99, 100, 101, 102, 103, 104, 105, 106, 107, 108, 109, 110, 111, 112, 113, 114, 115, 116, 117, 118, 119, 120, 121, 122, 65, 66, 67, 68, 69, 70, 71, 72, 73, 74, 75, 76, 77, 78, 79, 80, 81, 82, 83, 84, 85, 86, 87, 88, 89, 90, 95]), .lit (.string [97, 98, 99, 100, 101, 102, 103, 104, 105, 106, 107, 108, 109, 110, 111, 112, 113, 114, 115, 116, 117, 118, 119, 120, 121, 122, 65, 66, 67, 68, 69, 70, 71, 72, 73, 74, 75, 76, 77, 78, 79, 80, 81, 82, 83, 84, 85, 86, 87, 88, 89, 90, 48, 49, 50, 51, 52, 53, 54, 55, 56, 57, 95])]

/-- 'laws.FnName': WHATEVER THE INPUT: true; the input reads as it did. -/
def fnNameSpec : ChangeSpec := { name := "fnName", fn := fun _ => fun
  | [d1, d2] => { results := [.lit (.bool true)], args := [d1, d2] }
  | _ => none }
def fnNameRow : OpenClaim := { program := "yteoggommgbajnaadoor", sum := "b6b4a595deb2dc3ed9e90603366f00e1817593bd4ba53f83f2f83adf398740cb", func := "nameplough/laws.FnName", spec := "fnName", inPlace := ["internal/abi.NoEscape"], named := ["nameplough/pub/esbuild/inner/ast.DefaultNameMinifierCSS", "nameplough/pub/esbuild/inner/ast.DefaultNameMinifierJS"], apart := false, laid := [("nameplough/pub/esbuild/inner/ast.DefaultNameMinifierJS", laid_nameplough_pub_esbuild_inner_ast_DefaultNameMinifierJS), ("nameplough/pub/esbuild/inner/ast.DefaultNameMinifierCSS", laid_nameplough_pub_esbuild_inner_ast_DefaultNameMinifierCSS)] }
def FnNameSaid : Prop := fnNameRow.holds Tryd.pinned (OpenSpec.ofChange fnNameSpec)

/-- ITS FALSE NEIGHBOUR: 'it returns false'. Refute it at one input. -/
def fnNameWrong : ChangeSpec := { name := "fnName", fn := fun _ => fun
  | [d1, d2] => { results := [.lit (.bool false)], args := [d1, d2] }
  | _ => none }
def FnNameWrongFalsely : Prop := fnNameRow.holds Tryd.pinned (OpenSpec.ofChange fnNameWrong)

/-- 'laws.FnNames': WHATEVER THE INPUT: true; the input reads as it did. -/
def fnNamesSpec : ChangeSpec := { name := "fnNames", fn := fun _ => fun
  | [d1, d2] => { results := [.lit (.bool true)], args := [d1, d2] }
  | _ => none }
def fnNamesRow : OpenClaim := { program := "yteoggommgbajnaadoor", sum := "b6b4a595deb2dc3ed9e90603366f00e1817593bd4ba53f83f2f83adf398740cb", func := "nameplough/laws.FnNames", spec := "fnNames", inPlace := ["internal/abi.NoEscape"], named := ["nameplough/pub/esbuild/inner/ast.DefaultNameMinifierCSS", "nameplough/pub/esbuild/inner/ast.DefaultNameMinifierJS"], apart := false, laid := [("nameplough/pub/esbuild/inner/ast.DefaultNameMinifierJS", laid_nameplough_pub_esbuild_inner_ast_DefaultNameMinifierJS), ("nameplough/pub/esbuild/inner/ast.DefaultNameMinifierCSS", laid_nameplough_pub_esbuild_inner_ast_DefaultNameMinifierCSS)] }
def FnNamesSaid : Prop := fnNamesRow.holds Tryd.pinned (OpenSpec.ofChange fnNamesSpec)

/-- ITS FALSE NEIGHBOUR: 'it returns false'. Refute it at one input. -/
def fnNamesWrong : ChangeSpec := { name := "fnNames", fn := fun _ => fun
  | [d1, d2] => { results := [.lit (.bool false)], args := [d1, d2] }
  | _ => none }
def FnNamesWrongFalsely : Prop := fnNamesRow.holds Tryd.pinned (OpenSpec.ofChange fnNamesWrong)

/-- 'laws.FnNamesApart': WHATEVER THE INPUT: true; the input reads as it did. -/
def fnNamesApartSpec : ChangeSpec := { name := "fnNamesApart", fn := fun _ => fun
  | [d1, d2, d3] => { results := [.lit (.bool true)], args := [d1, d2, d3] }
  | _ => none }
def fnNamesApartRow : OpenClaim := { program := "yteoggommgbajnaadoor", sum := "b6b4a595deb2dc3ed9e90603366f00e1817593bd4ba53f83f2f83adf398740cb", func := "nameplough/laws.FnNamesApart", spec := "fnNamesApart", inPlace := ["internal/abi.NoEscape"], named := ["nameplough/pub/esbuild/inner/ast.DefaultNameMinifierCSS", "nameplough/pub/esbuild/inner/ast.DefaultNameMinifierJS"], apart := false, laid := [("nameplough/pub/esbuild/inner/ast.DefaultNameMinifierJS", laid_nameplough_pub_esbuild_inner_ast_DefaultNameMinifierJS), ("nameplough/pub/esbuild/inner/ast.DefaultNameMinifierCSS", laid_nameplough_pub_esbuild_inner_ast_DefaultNameMinifierCSS)] }
def FnNamesApartSaid : Prop := fnNamesApartRow.holds Tryd.pinned (OpenSpec.ofChange fnNamesApartSpec)

/-- ITS FALSE NEIGHBOUR: 'it returns false'. Refute it at one input. -/
def fnNamesApartWrong : ChangeSpec := { name := "fnNamesApart", fn := fun _ => fun
  | [d1, d2, d3] => { results := [.lit (.bool false)], args := [d1, d2, d3] }
  | _ => none }
def FnNamesApartWrongFalsely : Prop := fnNamesApartRow.holds Tryd.pinned (OpenSpec.ofChange fnNamesApartWrong)

/-- 'laws.FnNamesLonger': WHATEVER THE INPUT: true; the input reads as it did. -/
def fnNamesLongerSpec : ChangeSpec := { name := "fnNamesLonger", fn := fun _ => fun
  | [d1, d2, d3] => { results := [.lit (.bool true)], args := [d1, d2, d3] }
  | _ => none }
def fnNamesLongerRow : OpenClaim := { program := "yteoggommgbajnaadoor", sum := "b6b4a595deb2dc3ed9e90603366f00e1817593bd4ba53f83f2f83adf398740cb", func := "nameplough/laws.FnNamesLonger", spec := "fnNamesLonger", inPlace := ["internal/abi.NoEscape"], named := ["nameplough/pub/esbuild/inner/ast.DefaultNameMinifierCSS", "nameplough/pub/esbuild/inner/ast.DefaultNameMinifierJS"], apart := false, laid := [("nameplough/pub/esbuild/inner/ast.DefaultNameMinifierJS", laid_nameplough_pub_esbuild_inner_ast_DefaultNameMinifierJS), ("nameplough/pub/esbuild/inner/ast.DefaultNameMinifierCSS", laid_nameplough_pub_esbuild_inner_ast_DefaultNameMinifierCSS)] }
def FnNamesLongerSaid : Prop := fnNamesLongerRow.holds Tryd.pinned (OpenSpec.ofChange fnNamesLongerSpec)

/-- ITS FALSE NEIGHBOUR: 'it returns false'. Refute it at one input. -/
def fnNamesLongerWrong : ChangeSpec := { name := "fnNamesLonger", fn := fun _ => fun
  | [d1, d2, d3] => { results := [.lit (.bool false)], args := [d1, d2, d3] }
  | _ => none }
def FnNamesLongerWrongFalsely : Prop := fnNamesLongerRow.holds Tryd.pinned (OpenSpec.ofChange fnNamesLongerWrong)

/-- 'laws.FnMinifiedApart': WHATEVER THE INPUT: true; the input reads as it did. -/
def fnMinifiedApartSpec : ChangeSpec := { name := "fnMinifiedApart", fn := fun _ => fun
  | [d] => { results := [.lit (.bool true)], args := [d] }
  | _ => none }
def fnMinifiedApartRow : OpenClaim := { program := "yteoggommgbajnaadoor", sum := "b6b4a595deb2dc3ed9e90603366f00e1817593bd4ba53f83f2f83adf398740cb", func := "nameplough/laws.FnMinifiedApart", spec := "fnMinifiedApart", inPlace := ["internal/abi.NoEscape"], named := ["nameplough/pub/esbuild/inner/ast.DefaultNameMinifierJS"], apart := false, laid := [("nameplough/pub/esbuild/inner/ast.DefaultNameMinifierJS", laid_nameplough_pub_esbuild_inner_ast_DefaultNameMinifierJS)] }
def FnMinifiedApartSaid : Prop := fnMinifiedApartRow.holds Tryd.pinned (OpenSpec.ofChange fnMinifiedApartSpec)

/-- ITS FALSE NEIGHBOUR: 'it returns false'. Refute it at one input. -/
def fnMinifiedApartWrong : ChangeSpec := { name := "fnMinifiedApart", fn := fun _ => fun
  | [d] => { results := [.lit (.bool false)], args := [d] }
  | _ => none }
def FnMinifiedApartWrongFalsely : Prop := fnMinifiedApartRow.holds Tryd.pinned (OpenSpec.ofChange fnMinifiedApartWrong)

/-- 'laws.FnMinified': WHATEVER THE INPUT: true; the input reads as it did. -/
def fnMinifiedSpec : ChangeSpec := { name := "fnMinified", fn := fun _ => fun
  | [d] => { results := [.lit (.bool true)], args := [d] }
  | _ => none }
def fnMinifiedRow : OpenClaim := { program := "yteoggommgbajnaadoor", sum := "b6b4a595deb2dc3ed9e90603366f00e1817593bd4ba53f83f2f83adf398740cb", func := "nameplough/laws.FnMinified", spec := "fnMinified", inPlace := ["internal/abi.NoEscape"], named := ["nameplough/pub/esbuild/inner/ast.DefaultNameMinifierJS", "nameplough/pub/esbuild/inner/ast.DefaultNameMinifierCSS"], apart := false, laid := [("nameplough/pub/esbuild/inner/ast.DefaultNameMinifierJS", laid_nameplough_pub_esbuild_inner_ast_DefaultNameMinifierJS), ("nameplough/pub/esbuild/inner/ast.DefaultNameMinifierCSS", laid_nameplough_pub_esbuild_inner_ast_DefaultNameMinifierCSS)] }
def FnMinifiedSaid : Prop := fnMinifiedRow.holds Tryd.pinned (OpenSpec.ofChange fnMinifiedSpec)

/-- ITS FALSE NEIGHBOUR: 'it returns false'. Refute it at one input. -/
def fnMinifiedWrong : ChangeSpec := { name := "fnMinified", fn := fun _ => fun
  | [d] => { results := [.lit (.bool false)], args := [d] }
  | _ => none }
def FnMinifiedWrongFalsely : Prop := fnMinifiedRow.holds Tryd.pinned (OpenSpec.ofChange fnMinifiedWrong)

/- THE SECOND FORM. 'bulk': how many values and letters a reading holds, each counted each time it is reached (what is shared counts as often as it is met; a slice's spare places count too). A statement '..UptoSaid' is the law's where the arguments, and the package variables that the reading takes, are together of bulk at most 1048576: NARROWER than '..Said'. Prove '..Said' where nothing that the law and all that it calls make is longer than what came in: it says more and counts as full. Else prove '..UptoSaid'. A law counts once. -/
mutual
def uptoBulk {H : Type} : DataW H → Nat
  | .lit (.string bytes) => bytes.length + 1
  | .lit _ => 1
  | .nil => 1
  | .ptr d => uptoBulk d + 1
  | .slice elems spare => uptoBulkAll elems + uptoBulkAll spare + 1
  | .agg parts => uptoBulkAll parts + 1
  | .iface _ d => uptoBulk d + 1
  | .map entries => uptoBulkEntries entries + 1
  | .held _ => 1
def uptoBulkAll {H : Type} : List (DataW H) → Nat
  | [] => 0
  | d :: r => uptoBulk d + uptoBulkAll r
def uptoBulkEntries {H : Type} : List (Lit × DataW H) → Nat
  | [] => 0
  | x :: r => uptoBulkEntry x + uptoBulkEntries r
def uptoBulkEntry {H : Type} : Lit × DataW H → Nat
  | (.string bytes, d) => bytes.length + uptoBulk d + 1
  | (_, d) => uptoBulk d + 1
 end
def uptoSmall : (H : Type) → List (DataW H) → Bool := fun _ ds => decide (uptoBulkAll ds ≤ 1048576)
def OpenSpec.upto (s : _root_.Go.ChangeSpec) : _root_.Go.OpenSpec := { _root_.Go.OpenSpec.ofChange s with cond := some uptoSmall }

/-- 'laws.FnName', WHERE WHAT IT READS IS OF BULK AT MOST 1048576: true; the input reads as it did. -/
def fnNameUptoRow : OpenClaim := { program := "yteoggommgbajnaadoor", sum := "b6b4a595deb2dc3ed9e90603366f00e1817593bd4ba53f83f2f83adf398740cb", func := "nameplough/laws.FnName", spec := "fnName", inPlace := ["internal/abi.NoEscape"], named := ["nameplough/pub/esbuild/inner/ast.DefaultNameMinifierCSS", "nameplough/pub/esbuild/inner/ast.DefaultNameMinifierJS"], apart := false, laid := [("nameplough/pub/esbuild/inner/ast.DefaultNameMinifierJS", laid_nameplough_pub_esbuild_inner_ast_DefaultNameMinifierJS), ("nameplough/pub/esbuild/inner/ast.DefaultNameMinifierCSS", laid_nameplough_pub_esbuild_inner_ast_DefaultNameMinifierCSS)], narrowed := true }
def FnNameUptoSaid : Prop := fnNameUptoRow.holds Tryd.pinned (OpenSpec.upto fnNameSpec)

/-- 'laws.FnNames', WHERE WHAT IT READS IS OF BULK AT MOST 1048576: true; the input reads as it did. -/
def fnNamesUptoRow : OpenClaim := { program := "yteoggommgbajnaadoor", sum := "b6b4a595deb2dc3ed9e90603366f00e1817593bd4ba53f83f2f83adf398740cb", func := "nameplough/laws.FnNames", spec := "fnNames", inPlace := ["internal/abi.NoEscape"], named := ["nameplough/pub/esbuild/inner/ast.DefaultNameMinifierCSS", "nameplough/pub/esbuild/inner/ast.DefaultNameMinifierJS"], apart := false, laid := [("nameplough/pub/esbuild/inner/ast.DefaultNameMinifierJS", laid_nameplough_pub_esbuild_inner_ast_DefaultNameMinifierJS), ("nameplough/pub/esbuild/inner/ast.DefaultNameMinifierCSS", laid_nameplough_pub_esbuild_inner_ast_DefaultNameMinifierCSS)], narrowed := true }
def FnNamesUptoSaid : Prop := fnNamesUptoRow.holds Tryd.pinned (OpenSpec.upto fnNamesSpec)

/-- 'laws.FnNamesApart', WHERE WHAT IT READS IS OF BULK AT MOST 1048576: true; the input reads as it did. -/
def fnNamesApartUptoRow : OpenClaim := { program := "yteoggommgbajnaadoor", sum := "b6b4a595deb2dc3ed9e90603366f00e1817593bd4ba53f83f2f83adf398740cb", func := "nameplough/laws.FnNamesApart", spec := "fnNamesApart", inPlace := ["internal/abi.NoEscape"], named := ["nameplough/pub/esbuild/inner/ast.DefaultNameMinifierCSS", "nameplough/pub/esbuild/inner/ast.DefaultNameMinifierJS"], apart := false, laid := [("nameplough/pub/esbuild/inner/ast.DefaultNameMinifierJS", laid_nameplough_pub_esbuild_inner_ast_DefaultNameMinifierJS), ("nameplough/pub/esbuild/inner/ast.DefaultNameMinifierCSS", laid_nameplough_pub_esbuild_inner_ast_DefaultNameMinifierCSS)], narrowed := true }
def FnNamesApartUptoSaid : Prop := fnNamesApartUptoRow.holds Tryd.pinned (OpenSpec.upto fnNamesApartSpec)

/-- 'laws.FnNamesLonger', WHERE WHAT IT READS IS OF BULK AT MOST 1048576: true; the input reads as it did. -/
def fnNamesLongerUptoRow : OpenClaim := { program := "yteoggommgbajnaadoor", sum := "b6b4a595deb2dc3ed9e90603366f00e1817593bd4ba53f83f2f83adf398740cb", func := "nameplough/laws.FnNamesLonger", spec := "fnNamesLonger", inPlace := ["internal/abi.NoEscape"], named := ["nameplough/pub/esbuild/inner/ast.DefaultNameMinifierCSS", "nameplough/pub/esbuild/inner/ast.DefaultNameMinifierJS"], apart := false, laid := [("nameplough/pub/esbuild/inner/ast.DefaultNameMinifierJS", laid_nameplough_pub_esbuild_inner_ast_DefaultNameMinifierJS), ("nameplough/pub/esbuild/inner/ast.DefaultNameMinifierCSS", laid_nameplough_pub_esbuild_inner_ast_DefaultNameMinifierCSS)], narrowed := true }
def FnNamesLongerUptoSaid : Prop := fnNamesLongerUptoRow.holds Tryd.pinned (OpenSpec.upto fnNamesLongerSpec)

/-- 'laws.FnMinifiedApart', WHERE WHAT IT READS IS OF BULK AT MOST 1048576: true; the input reads as it did. -/
def fnMinifiedApartUptoRow : OpenClaim := { program := "yteoggommgbajnaadoor", sum := "b6b4a595deb2dc3ed9e90603366f00e1817593bd4ba53f83f2f83adf398740cb", func := "nameplough/laws.FnMinifiedApart", spec := "fnMinifiedApart", inPlace := ["internal/abi.NoEscape"], named := ["nameplough/pub/esbuild/inner/ast.DefaultNameMinifierJS"], apart := false, laid := [("nameplough/pub/esbuild/inner/ast.DefaultNameMinifierJS", laid_nameplough_pub_esbuild_inner_ast_DefaultNameMinifierJS)], narrowed := true }
def FnMinifiedApartUptoSaid : Prop := fnMinifiedApartUptoRow.holds Tryd.pinned (OpenSpec.upto fnMinifiedApartSpec)

/-- 'laws.FnMinified', WHERE WHAT IT READS IS OF BULK AT MOST 1048576: true; the input reads as it did. -/
def fnMinifiedUptoRow : OpenClaim := { program := "yteoggommgbajnaadoor", sum := "b6b4a595deb2dc3ed9e90603366f00e1817593bd4ba53f83f2f83adf398740cb", func := "nameplough/laws.FnMinified", spec := "fnMinified", inPlace := ["internal/abi.NoEscape"], named := ["nameplough/pub/esbuild/inner/ast.DefaultNameMinifierJS", "nameplough/pub/esbuild/inner/ast.DefaultNameMinifierCSS"], apart := false, laid := [("nameplough/pub/esbuild/inner/ast.DefaultNameMinifierJS", laid_nameplough_pub_esbuild_inner_ast_DefaultNameMinifierJS), ("nameplough/pub/esbuild/inner/ast.DefaultNameMinifierCSS", laid_nameplough_pub_esbuild_inner_ast_DefaultNameMinifierCSS)], narrowed := true }
def FnMinifiedUptoSaid : Prop := fnMinifiedUptoRow.holds Tryd.pinned (OpenSpec.upto fnMinifiedSpec)

end Rows
end Go.Proofs.YteoggommgbajnaaDoor
