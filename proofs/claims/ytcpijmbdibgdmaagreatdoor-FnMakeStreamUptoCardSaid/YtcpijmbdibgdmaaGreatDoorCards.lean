/-
  DERIVED. GIVEN WITH THE SEED: THE CARDS: each row of YtcpijmbdibgdmaaGreatDoorRows.lean that lists a variable, with what it lists TIED to the program's text (the seventh form; the later family's looks); each row that meets fmt, with fmt's text TOLD by the authors' own Lean function (tested against real Go, not proved from fmt's source: count such statements apart). THE CARD IS WHAT COUNTS. Prove the row's statement (the work); the ties are given (YtcpijmbdibgdmaaGreatDoorTie.lean); close each card by the builder's one call (the guide's Derived/Test/ToyasCard.lean, 'card_holds'). Laid BY PROGRAM, IN A SANDBOX (cutbox-door.mjs). By AI agents, Wed Nov 11 2026. No macro, syntax, notation, axiom, sorry.
-/
import Derived.Test.YtcpijmbdibgdmaaGreatDoorRows
import GoSem.ClaimSeven
namespace Go.Proofs.YtcpijmbdibgdmaaGreatDoor
namespace Rows

/-- THE TIED CARD OF 'laws.FnParseEnds'. -/
def fnParseEndsCard : Claim7 := { stood := { row := fnParseEndsRow, standIns := [], harness := (true, "16479b10e27760b57aab9ba9e06fd8d6a7f2c34772c81ab747389870769349f1"), looks := true }, kinds := [], alts := [], laidByText := true, laidKinds := [.data, .data, .widerDeep, .widerDeep, .data, .data, .data, .data, .data, .data, .sentinel, .sentinel, .sentinel, .sentinel, .sentinel, .sentinel, .sentinel, .sentinel, .sentinel, .sentinel, .sentinel, .sentinel, .sentinel, .sentinel, .sentinel, .pinned, .pinned, .pinned], laidTests := true, laidLooks := .later }
def FnParseEndsCardSaid : Prop := Claim7.holds Tryz.pinned (.plain (OpenSpec.ofChange fnParseEndsSpec)) fnParseEndsCard

/-- THE TIED CARD OF 'laws.FnMakeStream'. -/
def fnMakeStreamCard : Claim7 := { stood := { row := fnMakeStreamRow, standIns := [], harness := (true, "16479b10e27760b57aab9ba9e06fd8d6a7f2c34772c81ab747389870769349f1"), looks := true }, kinds := [], alts := [], laidByText := true, laidKinds := [.data, .data, .widerDeep, .widerDeep, .data, .data, .data, .data, .data, .sentinel, .sentinel, .sentinel, .pinned, .pinned], laidTests := true, laidLooks := .later }
def FnMakeStreamCardSaid : Prop := Claim7.holds Tryz.pinned (.plain (OpenSpec.ofChange fnMakeStreamSpec)) fnMakeStreamCard

/-- THE TIED CARD OF 'laws.FnParseTwo'. -/
def fnParseTwoCard : Claim7 := { stood := { row := fnParseTwoRow, standIns := [], harness := (true, "16479b10e27760b57aab9ba9e06fd8d6a7f2c34772c81ab747389870769349f1"), looks := true }, kinds := [], alts := [], laidByText := true, laidKinds := [.data, .data, .widerDeep, .widerDeep, .data, .data, .data, .data, .data, .data, .sentinel, .sentinel, .sentinel, .sentinel, .sentinel, .sentinel, .sentinel, .sentinel, .sentinel, .sentinel, .sentinel, .sentinel, .sentinel, .sentinel, .sentinel, .pinned, .pinned, .pinned], laidTests := true, laidLooks := .later }
def FnParseTwoCardSaid : Prop := Claim7.holds Tryz.pinned (.plain (OpenSpec.ofChange fnParseTwoSpec)) fnParseTwoCard

/-- THE TIED CARD OF 'laws.FnPrintParse'. -/
def fnPrintParseCard : Claim7 := { stood := { row := fnPrintParseRow, standIns := [], harness := (true, "16479b10e27760b57aab9ba9e06fd8d6a7f2c34772c81ab747389870769349f1"), looks := true }, kinds := [], alts := [], laidByText := true, laidKinds := [.data, .data, .widerDeep, .widerDeep, .data, .data, .data, .data, .data, .data, .sentinel, .sentinel, .sentinel, .sentinel, .sentinel, .sentinel, .sentinel, .sentinel, .sentinel, .sentinel, .sentinel, .sentinel, .sentinel, .sentinel, .sentinel, .pinned, .pinned, .pinned], laidTests := true, laidLooks := .later }
def FnPrintParseCardSaid : Prop := Claim7.holds Tryz.pinned (.plain (OpenSpec.ofChange fnPrintParseSpec)) fnPrintParseCard

/-- THE SECOND FORM's CARD OF 'laws.FnParseEnds'. -/
def fnParseEndsUptoCard : Claim7 := { stood := { row := fnParseEndsUptoRow, standIns := [], harness := (true, "16479b10e27760b57aab9ba9e06fd8d6a7f2c34772c81ab747389870769349f1"), looks := true }, kinds := [], alts := [], laidByText := true, laidKinds := [.data, .data, .widerDeep, .widerDeep, .data, .data, .data, .data, .data, .data, .sentinel, .sentinel, .sentinel, .sentinel, .sentinel, .sentinel, .sentinel, .sentinel, .sentinel, .sentinel, .sentinel, .sentinel, .sentinel, .sentinel, .sentinel, .pinned, .pinned, .pinned], laidTests := true, laidLooks := .later }
def FnParseEndsUptoCardSaid : Prop := Claim7.holds Tryz.pinned (.plain (OpenSpec.upto fnParseEndsSpec)) fnParseEndsUptoCard

/-- THE SECOND FORM's CARD OF 'laws.FnMakeStream'. -/
def fnMakeStreamUptoCard : Claim7 := { stood := { row := fnMakeStreamUptoRow, standIns := [], harness := (true, "16479b10e27760b57aab9ba9e06fd8d6a7f2c34772c81ab747389870769349f1"), looks := true }, kinds := [], alts := [], laidByText := true, laidKinds := [.data, .data, .widerDeep, .widerDeep, .data, .data, .data, .data, .data, .sentinel, .sentinel, .sentinel, .pinned, .pinned], laidTests := true, laidLooks := .later }
def FnMakeStreamUptoCardSaid : Prop := Claim7.holds Tryz.pinned (.plain (OpenSpec.upto fnMakeStreamSpec)) fnMakeStreamUptoCard

/-- THE SECOND FORM's CARD OF 'laws.FnParseTwo'. -/
def fnParseTwoUptoCard : Claim7 := { stood := { row := fnParseTwoUptoRow, standIns := [], harness := (true, "16479b10e27760b57aab9ba9e06fd8d6a7f2c34772c81ab747389870769349f1"), looks := true }, kinds := [], alts := [], laidByText := true, laidKinds := [.data, .data, .widerDeep, .widerDeep, .data, .data, .data, .data, .data, .data, .sentinel, .sentinel, .sentinel, .sentinel, .sentinel, .sentinel, .sentinel, .sentinel, .sentinel, .sentinel, .sentinel, .sentinel, .sentinel, .sentinel, .sentinel, .pinned, .pinned, .pinned], laidTests := true, laidLooks := .later }
def FnParseTwoUptoCardSaid : Prop := Claim7.holds Tryz.pinned (.plain (OpenSpec.upto fnParseTwoSpec)) fnParseTwoUptoCard

/-- THE SECOND FORM's CARD OF 'laws.FnPrintParse'. -/
def fnPrintParseUptoCard : Claim7 := { stood := { row := fnPrintParseUptoRow, standIns := [], harness := (true, "16479b10e27760b57aab9ba9e06fd8d6a7f2c34772c81ab747389870769349f1"), looks := true }, kinds := [], alts := [], laidByText := true, laidKinds := [.data, .data, .widerDeep, .widerDeep, .data, .data, .data, .data, .data, .data, .sentinel, .sentinel, .sentinel, .sentinel, .sentinel, .sentinel, .sentinel, .sentinel, .sentinel, .sentinel, .sentinel, .sentinel, .sentinel, .sentinel, .sentinel, .pinned, .pinned, .pinned], laidTests := true, laidLooks := .later }
def FnPrintParseUptoCardSaid : Prop := Claim7.holds Tryz.pinned (.plain (OpenSpec.upto fnPrintParseSpec)) fnPrintParseUptoCard
end Rows
end Go.Proofs.YtcpijmbdibgdmaaGreatDoor
