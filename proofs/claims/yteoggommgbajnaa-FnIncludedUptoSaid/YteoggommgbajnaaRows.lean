/-
  No cell of these rows narrows 'for every input' (looked for: loops, veiled, ifaces, maps, wideKeys, modest, calm, conditions, laid).
  DERIVED. THE GIVEN ROWS OF THIS SEAT. 5 by the template 'for every input the law returns true; each argument reads behind the call as it read before'; 0 by the template 'total and deterministic' (their statements: YteoggommgbajnaaTotals.lean).
  GIVEN WITH THE SEED: the statements are not yours to turn. If you find one false, say at which input.
  Laid BY PROGRAM, IN A SANDBOX (cutbox-rows.mjs): the forced cells as the released guide's own fill.sh prints them over the translation 30d2a0ebab63b9c5… (all of the seat's roots in one cut). By AI agents, Wed Nov 11 2026. No macro, syntax, notation, axiom, sorry.
-/
import Derived.Test.YteoggommgbajnaaChecked
import GoSem.Claim
import GoSem.ClaimJoined
import GoSem.ClaimMapViews
import Derived.JoinedTies
import Derived.KernelRfl
namespace Go.Proofs.Yteoggommgbajnaa
/- THE CELL 'sum', in the pinned program and in every row, IS THE sha256 OF THE DUMP (.gsa) THAT YteoggommgbajnaaProg.lean LOADS. Nothing in Lean hashes anything: it is a label: what it is worth is what the hold of that sum in a sandbox is worth. -/
noncomputable def Try.pinned : Pinned := { name := "yteoggommgbajnaa", sum := "30d2a0ebab63b9c5aed9a781fb4f8f18a435db31734065a62aee0356f3ce90e1", checked := Try.checked }
namespace Rows
def none {H : Type} : Left H := { results := [], args := [] }

/-- 'laws.FnEnsured': WHATEVER THE INPUT: true; the input reads as it did. -/
def fnEnsuredSpec : ChangeSpec := { name := "fnEnsured", fn := fun _ => fun
  | [d] => { results := [.lit (.bool true)], args := [d] }
  | _ => none }
def fnEnsuredRow : OpenClaim := { program := "yteoggommgbajnaa", sum := "30d2a0ebab63b9c5aed9a781fb4f8f18a435db31734065a62aee0356f3ce90e1", func := "nameplough/laws.FnEnsured", spec := "fnEnsured", apart := false }
def FnEnsuredSaid : Prop := fnEnsuredRow.holds Try.pinned (OpenSpec.ofChange fnEnsuredSpec)

/-- ITS FALSE NEIGHBOUR: 'it returns false'. Refute it at one input. -/
def fnEnsuredWrong : ChangeSpec := { name := "fnEnsured", fn := fun _ => fun
  | [d] => { results := [.lit (.bool false)], args := [d] }
  | _ => none }
def FnEnsuredWrongFalsely : Prop := fnEnsuredRow.holds Try.pinned (OpenSpec.ofChange fnEnsuredWrong)

/-- 'laws.FnEnsuredAgain': WHATEVER THE INPUT: true; the input reads as it did. -/
def fnEnsuredAgainSpec : ChangeSpec := { name := "fnEnsuredAgain", fn := fun _ => fun
  | [d] => { results := [.lit (.bool true)], args := [d] }
  | _ => none }
def fnEnsuredAgainRow : OpenClaim := { program := "yteoggommgbajnaa", sum := "30d2a0ebab63b9c5aed9a781fb4f8f18a435db31734065a62aee0356f3ce90e1", func := "nameplough/laws.FnEnsuredAgain", spec := "fnEnsuredAgain", apart := false }
def FnEnsuredAgainSaid : Prop := fnEnsuredAgainRow.holds Try.pinned (OpenSpec.ofChange fnEnsuredAgainSpec)

/-- ITS FALSE NEIGHBOUR: 'it returns false'. Refute it at one input. -/
def fnEnsuredAgainWrong : ChangeSpec := { name := "fnEnsuredAgain", fn := fun _ => fun
  | [d] => { results := [.lit (.bool false)], args := [d] }
  | _ => none }
def FnEnsuredAgainWrongFalsely : Prop := fnEnsuredAgainRow.holds Try.pinned (OpenSpec.ofChange fnEnsuredAgainWrong)

/-- 'laws.FnSpace': WHATEVER THE INPUT: true; the input reads as it did. -/
def fnSpaceSpec : ChangeSpec := { name := "fnSpace", fn := fun _ => fun
  | [d] => { results := [.lit (.bool true)], args := [d] }
  | _ => none }
def fnSpaceRow : OpenClaim := { program := "yteoggommgbajnaa", sum := "30d2a0ebab63b9c5aed9a781fb4f8f18a435db31734065a62aee0356f3ce90e1", func := "nameplough/laws.FnSpace", spec := "fnSpace", apart := false }
def FnSpaceSaid : Prop := fnSpaceRow.holds Try.pinned (OpenSpec.ofChange fnSpaceSpec)

/-- ITS FALSE NEIGHBOUR: 'it returns false'. Refute it at one input. -/
def fnSpaceWrong : ChangeSpec := { name := "fnSpace", fn := fun _ => fun
  | [d] => { results := [.lit (.bool false)], args := [d] }
  | _ => none }
def FnSpaceWrongFalsely : Prop := fnSpaceRow.holds Try.pinned (OpenSpec.ofChange fnSpaceWrong)

/-- 'laws.FnCounts': WHATEVER THE INPUT: true; the input reads as it did. -/
def fnCountsSpec : ChangeSpec := { name := "fnCounts", fn := fun _ => fun
  | [d] => { results := [.lit (.bool true)], args := [d] }
  | _ => none }
def fnCountsRow : OpenClaim := { program := "yteoggommgbajnaa", sum := "30d2a0ebab63b9c5aed9a781fb4f8f18a435db31734065a62aee0356f3ce90e1", func := "nameplough/laws.FnCounts", spec := "fnCounts", apart := false }
def FnCountsSaid : Prop := fnCountsRow.holds Try.pinned (OpenSpec.ofChange fnCountsSpec)

/-- ITS FALSE NEIGHBOUR: 'it returns false'. Refute it at one input. -/
def fnCountsWrong : ChangeSpec := { name := "fnCounts", fn := fun _ => fun
  | [d] => { results := [.lit (.bool false)], args := [d] }
  | _ => none }
def FnCountsWrongFalsely : Prop := fnCountsRow.holds Try.pinned (OpenSpec.ofChange fnCountsWrong)

/-- 'laws.FnIncluded': WHATEVER THE INPUT: true; the input reads as it did. -/
def fnIncludedSpec : ChangeSpec := { name := "fnIncluded", fn := fun _ => fun
  | [d1, d2] => { results := [.lit (.bool true)], args := [d1, d2] }
  | _ => none }
def fnIncludedRow : OpenClaim := { program := "yteoggommgbajnaa", sum := "30d2a0ebab63b9c5aed9a781fb4f8f18a435db31734065a62aee0356f3ce90e1", func := "nameplough/laws.FnIncluded", spec := "fnIncluded", apart := false }
def FnIncludedSaid : Prop := fnIncludedRow.holds Try.pinned (OpenSpec.ofChange fnIncludedSpec)

/-- ITS FALSE NEIGHBOUR: 'it returns false'. Refute it at one input. -/
def fnIncludedWrong : ChangeSpec := { name := "fnIncluded", fn := fun _ => fun
  | [d1, d2] => { results := [.lit (.bool false)], args := [d1, d2] }
  | _ => none }
def FnIncludedWrongFalsely : Prop := fnIncludedRow.holds Try.pinned (OpenSpec.ofChange fnIncludedWrong)

/- THE SECOND FORM. 'bulk': how many values and letters a reading holds, each counted each time it is reached (what is shared counts as often as it is met; a slice's spare places count too). A statement '..UptoSaid' is the law's where the arguments, and the package variables that the reading takes, are together of bulk at most 1048576: NARROWER than '..Said'. Prove '..Said' where nothing that the law and all that it calls make is longer than what came in: it says more and counts as full. Else prove '..UptoSaid'. A law counts once. -/
mutual
def uptoBulk {H : Type} : DataW H → Nat
  | .lit (.string bytes) => bytes.length + 1
  | .lit _ => 1
  | .nil => 1
  | .ptr d => uptoBulk d + 1
  | .slice elems spare => uptoBulkAll elems + uptoBulkAll spare + 1
  | .agg parts => uptoBulkAll parts + 1
  | .iface _ d => uptoBulk d + 1
  | .map entries => uptoBulkEntries entries + 1
  | .held _ => 1
def uptoBulkAll {H : Type} : List (DataW H) → Nat
  | [] => 0
  | d :: r => uptoBulk d + uptoBulkAll r
def uptoBulkEntries {H : Type} : List (Lit × DataW H) → Nat
  | [] => 0
  | x :: r => uptoBulkEntry x + uptoBulkEntries r
def uptoBulkEntry {H : Type} : Lit × DataW H → Nat
  | (.string bytes, d) => bytes.length + uptoBulk d + 1
  | (_, d) => uptoBulk d + 1
 end
def uptoSmall : (H : Type) → List (DataW H) → Bool := fun _ ds => decide (uptoBulkAll ds ≤ 1048576)
def OpenSpec.upto (s : _root_.Go.ChangeSpec) : _root_.Go.OpenSpec := { _root_.Go.OpenSpec.ofChange s with cond := some uptoSmall }

/-- 'laws.FnEnsured', WHERE WHAT IT READS IS OF BULK AT MOST 1048576: true; the input reads as it did. -/
def fnEnsuredUptoRow : OpenClaim := { program := "yteoggommgbajnaa", sum := "30d2a0ebab63b9c5aed9a781fb4f8f18a435db31734065a62aee0356f3ce90e1", func := "nameplough/laws.FnEnsured", spec := "fnEnsured", apart := false, narrowed := true }
def FnEnsuredUptoSaid : Prop := fnEnsuredUptoRow.holds Try.pinned (OpenSpec.upto fnEnsuredSpec)

/-- 'laws.FnEnsuredAgain', WHERE WHAT IT READS IS OF BULK AT MOST 1048576: true; the input reads as it did. -/
def fnEnsuredAgainUptoRow : OpenClaim := { program := "yteoggommgbajnaa", sum := "30d2a0ebab63b9c5aed9a781fb4f8f18a435db31734065a62aee0356f3ce90e1", func := "nameplough/laws.FnEnsuredAgain", spec := "fnEnsuredAgain", apart := false, narrowed := true }
def FnEnsuredAgainUptoSaid : Prop := fnEnsuredAgainUptoRow.holds Try.pinned (OpenSpec.upto fnEnsuredAgainSpec)

/-- 'laws.FnSpace', WHERE WHAT IT READS IS OF BULK AT MOST 1048576: true; the input reads as it did. -/
def fnSpaceUptoRow : OpenClaim := { program := "yteoggommgbajnaa", sum := "30d2a0ebab63b9c5aed9a781fb4f8f18a435db31734065a62aee0356f3ce90e1", func := "nameplough/laws.FnSpace", spec := "fnSpace", apart := false, narrowed := true }
def FnSpaceUptoSaid : Prop := fnSpaceUptoRow.holds Try.pinned (OpenSpec.upto fnSpaceSpec)

/-- 'laws.FnCounts', WHERE WHAT IT READS IS OF BULK AT MOST 1048576: true; the input reads as it did. -/
def fnCountsUptoRow : OpenClaim := { program := "yteoggommgbajnaa", sum := "30d2a0ebab63b9c5aed9a781fb4f8f18a435db31734065a62aee0356f3ce90e1", func := "nameplough/laws.FnCounts", spec := "fnCounts", apart := false, narrowed := true }
def FnCountsUptoSaid : Prop := fnCountsUptoRow.holds Try.pinned (OpenSpec.upto fnCountsSpec)

/-- 'laws.FnIncluded', WHERE WHAT IT READS IS OF BULK AT MOST 1048576: true; the input reads as it did. -/
def fnIncludedUptoRow : OpenClaim := { program := "yteoggommgbajnaa", sum := "30d2a0ebab63b9c5aed9a781fb4f8f18a435db31734065a62aee0356f3ce90e1", func := "nameplough/laws.FnIncluded", spec := "fnIncluded", apart := false, narrowed := true }
def FnIncludedUptoSaid : Prop := fnIncludedUptoRow.holds Try.pinned (OpenSpec.upto fnIncludedSpec)

end Rows
end Go.Proofs.Yteoggommgbajnaa
