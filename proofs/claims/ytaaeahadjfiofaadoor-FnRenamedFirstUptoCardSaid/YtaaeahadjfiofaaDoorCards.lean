/-
  DERIVED. GIVEN WITH THE SEED: THE CARDS: each row of YtaaeahadjfiofaaDoorRows.lean that lists a variable, with what it lists TIED to the program's text (the seventh form; the later family's looks); each row that meets fmt, with fmt's text TOLD by the authors' own Lean function (tested against real Go, not proved from fmt's source: count such statements apart). THE CARD IS WHAT COUNTS. Prove the row's statement (the work); the ties are given (YtaaeahadjfiofaaDoorTie.lean); close each card by the builder's one call (the guide's Derived/Test/ToyasCard.lean, 'card_holds'). Laid BY PROGRAM, IN A SANDBOX (cutbox-door.mjs). By AI agents, Wed Nov 11 2026. No macro, syntax, notation, axiom, sorry.
-/
import Derived.Test.YtaaeahadjfiofaaDoorRows
import GoSem.ClaimSeven
namespace Go.Proofs.YtaaeahadjfiofaaDoor
namespace Rows

/-- THE TIED CARD OF 'laws.FnRenamedApart'. -/
def fnRenamedApartCard : Claim7 := { stood := { row := fnRenamedApartRow, standIns := [], harness := (true, "dc02976374ea79b6b2387071c66e141f4c5bafdc6a114d01e138ba1c0f32ac97"), looks := false }, kinds := [], alts := [], laidByText := true, laidKinds := [.data, .data, .data], laidTests := true, laidLooks := .later }
def FnRenamedApartCardSaid : Prop := Claim7.holds Tryd.pinned (.plain (OpenSpec.ofChange fnRenamedApartSpec)) fnRenamedApartCard

/-- THE TIED CARD OF 'laws.FnRenamedFirst'. -/
def fnRenamedFirstCard : Claim7 := { stood := { row := fnRenamedFirstRow, standIns := [], harness := (true, "dc02976374ea79b6b2387071c66e141f4c5bafdc6a114d01e138ba1c0f32ac97"), looks := false }, kinds := [], alts := [], laidByText := true, laidKinds := [.data, .data, .data], laidTests := true, laidLooks := .later }
def FnRenamedFirstCardSaid : Prop := Claim7.holds Tryd.pinned (.plain (OpenSpec.ofChange fnRenamedFirstSpec)) fnRenamedFirstCard

/-- THE TIED CARD OF 'laws.FnRenamedForm'. -/
def fnRenamedFormCard : Claim7 := { stood := { row := fnRenamedFormRow, standIns := [], harness := (true, "dc02976374ea79b6b2387071c66e141f4c5bafdc6a114d01e138ba1c0f32ac97"), looks := false }, kinds := [], alts := [], laidByText := true, laidKinds := [.data, .data, .data], laidTests := true, laidLooks := .later }
def FnRenamedFormCardSaid : Prop := Claim7.holds Tryd.pinned (.plain (OpenSpec.ofChange fnRenamedFormSpec)) fnRenamedFormCard

/-- THE SECOND FORM's CARD OF 'laws.FnRenamedApart'. -/
def fnRenamedApartUptoCard : Claim7 := { stood := { row := fnRenamedApartUptoRow, standIns := [], harness := (true, "dc02976374ea79b6b2387071c66e141f4c5bafdc6a114d01e138ba1c0f32ac97"), looks := false }, kinds := [], alts := [], laidByText := true, laidKinds := [.data, .data, .data], laidTests := true, laidLooks := .later }
def FnRenamedApartUptoCardSaid : Prop := Claim7.holds Tryd.pinned (.plain (OpenSpec.upto fnRenamedApartSpec)) fnRenamedApartUptoCard

/-- THE SECOND FORM's CARD OF 'laws.FnRenamedFirst'. -/
def fnRenamedFirstUptoCard : Claim7 := { stood := { row := fnRenamedFirstUptoRow, standIns := [], harness := (true, "dc02976374ea79b6b2387071c66e141f4c5bafdc6a114d01e138ba1c0f32ac97"), looks := false }, kinds := [], alts := [], laidByText := true, laidKinds := [.data, .data, .data], laidTests := true, laidLooks := .later }
def FnRenamedFirstUptoCardSaid : Prop := Claim7.holds Tryd.pinned (.plain (OpenSpec.upto fnRenamedFirstSpec)) fnRenamedFirstUptoCard

/-- THE SECOND FORM's CARD OF 'laws.FnRenamedForm'. -/
def fnRenamedFormUptoCard : Claim7 := { stood := { row := fnRenamedFormUptoRow, standIns := [], harness := (true, "dc02976374ea79b6b2387071c66e141f4c5bafdc6a114d01e138ba1c0f32ac97"), looks := false }, kinds := [], alts := [], laidByText := true, laidKinds := [.data, .data, .data], laidTests := true, laidLooks := .later }
def FnRenamedFormUptoCardSaid : Prop := Claim7.holds Tryd.pinned (.plain (OpenSpec.upto fnRenamedFormSpec)) fnRenamedFormUptoCard
end Rows
end Go.Proofs.YtaaeahadjfiofaaDoor
