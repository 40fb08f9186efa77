/-
  DERIVED. GIVEN WITH THE SEED: THE CARDS: each row of YtpmihkhmijndaaaDoorRows.lean that lists a variable, with what it lists TIED to the program's text (the seventh form; the later family's looks); each row that meets fmt, with fmt's text TOLD by the authors' own Lean function (tested against real Go, not proved from fmt's source: count such statements apart). THE CARD IS WHAT COUNTS. Prove the row's statement (the work); the ties are given (YtpmihkhmijndaaaDoorTie.lean); close each card by the builder's one call (the guide's Derived/Test/ToyasCard.lean, 'card_holds'). Laid BY PROGRAM, IN A SANDBOX (cutbox-door.mjs). By AI agents, Wed Nov 11 2026. No macro, syntax, notation, axiom, sorry.
-/
import Derived.Test.YtpmihkhmijndaaaDoorRows
import GoSem.ClaimSeven
namespace Go.Proofs.YtpmihkhmijndaaaDoor
namespace Rows

/-- THE TIED CARD OF 'laws.FnShuffled'. -/
def fnShuffledCard : Claim7 := { stood := { row := fnShuffledRow, standIns := [], harness := (true, "3b1151fec8f8b867e3cd2071cd23d7b3aca73c844527d56f8cfb842aec19069c"), looks := false }, kinds := [], alts := [], laidByText := true, laidKinds := [.wider, .data], laidTests := true, laidLooks := .later }
def FnShuffledCardSaid : Prop := Claim7.holds Tryd.pinned (.plain (OpenSpec.ofChange fnShuffledSpec)) fnShuffledCard

/-- THE TIED CARD OF 'laws.FnShuffledApart'. -/
def fnShuffledApartCard : Claim7 := { stood := { row := fnShuffledApartRow, standIns := [], harness := (true, "3b1151fec8f8b867e3cd2071cd23d7b3aca73c844527d56f8cfb842aec19069c"), looks := false }, kinds := [], alts := [], laidByText := true, laidKinds := [.wider, .data], laidTests := true, laidLooks := .later }
def FnShuffledApartCardSaid : Prop := Claim7.holds Tryd.pinned (.plain (OpenSpec.ofChange fnShuffledApartSpec)) fnShuffledApartCard

/-- THE TIED CARD OF 'laws.FnShuffledLong'. -/
def fnShuffledLongCard : Claim7 := { stood := { row := fnShuffledLongRow, standIns := [], harness := (true, "3b1151fec8f8b867e3cd2071cd23d7b3aca73c844527d56f8cfb842aec19069c"), looks := false }, kinds := [], alts := [], laidByText := true, laidKinds := [.wider, .data], laidTests := true, laidLooks := .later }
def FnShuffledLongCardSaid : Prop := Claim7.holds Tryd.pinned (.plain (OpenSpec.ofChange fnShuffledLongSpec)) fnShuffledLongCard

/-- THE SECOND FORM's CARD OF 'laws.FnShuffled'. -/
def fnShuffledUptoCard : Claim7 := { stood := { row := fnShuffledUptoRow, standIns := [], harness := (true, "3b1151fec8f8b867e3cd2071cd23d7b3aca73c844527d56f8cfb842aec19069c"), looks := false }, kinds := [], alts := [], laidByText := true, laidKinds := [.wider, .data], laidTests := true, laidLooks := .later }
def FnShuffledUptoCardSaid : Prop := Claim7.holds Tryd.pinned (.plain (OpenSpec.upto fnShuffledSpec)) fnShuffledUptoCard

/-- THE SECOND FORM's CARD OF 'laws.FnShuffledApart'. -/
def fnShuffledApartUptoCard : Claim7 := { stood := { row := fnShuffledApartUptoRow, standIns := [], harness := (true, "3b1151fec8f8b867e3cd2071cd23d7b3aca73c844527d56f8cfb842aec19069c"), looks := false }, kinds := [], alts := [], laidByText := true, laidKinds := [.wider, .data], laidTests := true, laidLooks := .later }
def FnShuffledApartUptoCardSaid : Prop := Claim7.holds Tryd.pinned (.plain (OpenSpec.upto fnShuffledApartSpec)) fnShuffledApartUptoCard

/-- THE SECOND FORM's CARD OF 'laws.FnShuffledLong'. -/
def fnShuffledLongUptoCard : Claim7 := { stood := { row := fnShuffledLongUptoRow, standIns := [], harness := (true, "3b1151fec8f8b867e3cd2071cd23d7b3aca73c844527d56f8cfb842aec19069c"), looks := false }, kinds := [], alts := [], laidByText := true, laidKinds := [.wider, .data], laidTests := true, laidLooks := .later }
def FnShuffledLongUptoCardSaid : Prop := Claim7.holds Tryd.pinned (.plain (OpenSpec.upto fnShuffledLongSpec)) fnShuffledLongUptoCard
end Rows
end Go.Proofs.YtpmihkhmijndaaaDoor
