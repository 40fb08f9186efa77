/-
  DERIVED. GIVEN WITH THE SEED: THE CARDS: each row of YteoggommgbajnaaDoorRows.lean that lists a variable, with what it lists TIED to the program's text (the seventh form; the later family's looks); each row that meets fmt, with fmt's text TOLD by the authors' own Lean function (tested against real Go, not proved from fmt's source: count such statements apart). THE CARD IS WHAT COUNTS. Prove the row's statement (the work); the ties are given (YteoggommgbajnaaDoorTie.lean); close each card by the builder's one call (the guide's Derived/Test/ToyasCard.lean, 'card_holds'). Laid BY PROGRAM, IN A SANDBOX (cutbox-door.mjs). By AI agents, Wed Nov 11 2026. No macro, syntax, notation, axiom, sorry.
-/
import Derived.Test.YteoggommgbajnaaDoorRows
import GoSem.ClaimSeven
namespace Go.Proofs.YteoggommgbajnaaDoor
namespace Rows

/-- THE TIED CARD OF 'laws.FnName'. -/
def fnNameCard : Claim7 := { stood := { row := fnNameRow, standIns := [], harness := (true, "7018e4a64c8f2fbc114b64bb62676291069cc18030b341381c2a77881e4e2f1d"), looks := false }, kinds := [], alts := [], laidByText := true, laidKinds := [.wider, .data], laidTests := true, laidLooks := .later }
def FnNameCardSaid : Prop := Claim7.holds Tryd.pinned (.plain (OpenSpec.ofChange fnNameSpec)) fnNameCard

/-- THE TIED CARD OF 'laws.FnNames'. -/
def fnNamesCard : Claim7 := { stood := { row := fnNamesRow, standIns := [], harness := (true, "7018e4a64c8f2fbc114b64bb62676291069cc18030b341381c2a77881e4e2f1d"), looks := false }, kinds := [], alts := [], laidByText := true, laidKinds := [.wider, .data], laidTests := true, laidLooks := .later }
def FnNamesCardSaid : Prop := Claim7.holds Tryd.pinned (.plain (OpenSpec.ofChange fnNamesSpec)) fnNamesCard

/-- THE TIED CARD OF 'laws.FnNamesApart'. -/
def fnNamesApartCard : Claim7 := { stood := { row := fnNamesApartRow, standIns := [], harness := (true, "7018e4a64c8f2fbc114b64bb62676291069cc18030b341381c2a77881e4e2f1d"), looks := false }, kinds := [], alts := [], laidByText := true, laidKinds := [.wider, .data], laidTests := true, laidLooks := .later }
def FnNamesApartCardSaid : Prop := Claim7.holds Tryd.pinned (.plain (OpenSpec.ofChange fnNamesApartSpec)) fnNamesApartCard

/-- THE TIED CARD OF 'laws.FnNamesLonger'. -/
def fnNamesLongerCard : Claim7 := { stood := { row := fnNamesLongerRow, standIns := [], harness := (true, "7018e4a64c8f2fbc114b64bb62676291069cc18030b341381c2a77881e4e2f1d"), looks := false }, kinds := [], alts := [], laidByText := true, laidKinds := [.wider, .data], laidTests := true, laidLooks := .later }
def FnNamesLongerCardSaid : Prop := Claim7.holds Tryd.pinned (.plain (OpenSpec.ofChange fnNamesLongerSpec)) fnNamesLongerCard

/-- THE TIED CARD OF 'laws.FnMinifiedApart'. -/
def fnMinifiedApartCard : Claim7 := { stood := { row := fnMinifiedApartRow, standIns := [], harness := (true, "7018e4a64c8f2fbc114b64bb62676291069cc18030b341381c2a77881e4e2f1d"), looks := false }, kinds := [], alts := [], laidByText := true, laidKinds := [.wider], laidTests := true, laidLooks := .later }
def FnMinifiedApartCardSaid : Prop := Claim7.holds Tryd.pinned (.plain (OpenSpec.ofChange fnMinifiedApartSpec)) fnMinifiedApartCard

/-- THE TIED CARD OF 'laws.FnMinified'. -/
def fnMinifiedCard : Claim7 := { stood := { row := fnMinifiedRow, standIns := [], harness := (true, "7018e4a64c8f2fbc114b64bb62676291069cc18030b341381c2a77881e4e2f1d"), looks := false }, kinds := [], alts := [], laidByText := true, laidKinds := [.wider, .data], laidTests := true, laidLooks := .later }
def FnMinifiedCardSaid : Prop := Claim7.holds Tryd.pinned (.plain (OpenSpec.ofChange fnMinifiedSpec)) fnMinifiedCard

/-- THE SECOND FORM's CARD OF 'laws.FnName'. -/
def fnNameUptoCard : Claim7 := { stood := { row := fnNameUptoRow, standIns := [], harness := (true, "7018e4a64c8f2fbc114b64bb62676291069cc18030b341381c2a77881e4e2f1d"), looks := false }, kinds := [], alts := [], laidByText := true, laidKinds := [.wider, .data], laidTests := true, laidLooks := .later }
def FnNameUptoCardSaid : Prop := Claim7.holds Tryd.pinned (.plain (OpenSpec.upto fnNameSpec)) fnNameUptoCard

/-- THE SECOND FORM's CARD OF 'laws.FnNames'. -/
def fnNamesUptoCard : Claim7 := { stood := { row := fnNamesUptoRow, standIns := [], harness := (true, "7018e4a64c8f2fbc114b64bb62676291069cc18030b341381c2a77881e4e2f1d"), looks := false }, kinds := [], alts := [], laidByText := true, laidKinds := [.wider, .data], laidTests := true, laidLooks := .later }
def FnNamesUptoCardSaid : Prop := Claim7.holds Tryd.pinned (.plain (OpenSpec.upto fnNamesSpec)) fnNamesUptoCard

/-- THE SECOND FORM's CARD OF 'laws.FnNamesApart'. -/
def fnNamesApartUptoCard : Claim7 := { stood := { row := fnNamesApartUptoRow, standIns := [], harness := (true, "7018e4a64c8f2fbc114b64bb62676291069cc18030b341381c2a77881e4e2f1d"), looks := false }, kinds := [], alts := [], laidByText := true, laidKinds := [.wider, .data], laidTests := true, laidLooks := .later }
def FnNamesApartUptoCardSaid : Prop := Claim7.holds Tryd.pinned (.plain (OpenSpec.upto fnNamesApartSpec)) fnNamesApartUptoCard

/-- THE SECOND FORM's CARD OF 'laws.FnNamesLonger'. -/
def fnNamesLongerUptoCard : Claim7 := { stood := { row := fnNamesLongerUptoRow, standIns := [], harness := (true, "7018e4a64c8f2fbc114b64bb62676291069cc18030b341381c2a77881e4e2f1d"), looks := false }, kinds := [], alts := [], laidByText := true, laidKinds := [.wider, .data], laidTests := true, laidLooks := .later }
def FnNamesLongerUptoCardSaid : Prop := Claim7.holds Tryd.pinned (.plain (OpenSpec.upto fnNamesLongerSpec)) fnNamesLongerUptoCard

/-- THE SECOND FORM's CARD OF 'laws.FnMinifiedApart'. -/
def fnMinifiedApartUptoCard : Claim7 := { stood := { row := fnMinifiedApartUptoRow, standIns := [], harness := (true, "7018e4a64c8f2fbc114b64bb62676291069cc18030b341381c2a77881e4e2f1d"), looks := false }, kinds := [], alts := [], laidByText := true, laidKinds := [.wider], laidTests := true, laidLooks := .later }
def FnMinifiedApartUptoCardSaid : Prop := Claim7.holds Tryd.pinned (.plain (OpenSpec.upto fnMinifiedApartSpec)) fnMinifiedApartUptoCard

/-- THE SECOND FORM's CARD OF 'laws.FnMinified'. -/
def fnMinifiedUptoCard : Claim7 := { stood := { row := fnMinifiedUptoRow, standIns := [], harness := (true, "7018e4a64c8f2fbc114b64bb62676291069cc18030b341381c2a77881e4e2f1d"), looks := false }, kinds := [], alts := [], laidByText := true, laidKinds := [.wider, .data], laidTests := true, laidLooks := .later }
def FnMinifiedUptoCardSaid : Prop := Claim7.holds Tryd.pinned (.plain (OpenSpec.upto fnMinifiedSpec)) fnMinifiedUptoCard
end Rows
end Go.Proofs.YteoggommgbajnaaDoor
