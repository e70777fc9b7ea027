/-
  DERIVED. GIVEN WITH THE SEED: THE CARDS: each row of YtfkecmlmnhbmoaaGreatDoorRows.lean that lists a variable, with what it lists TIED to the program's text (the seventh form; the later family's looks); each row that meets fmt, with fmt's text TOLD by the authors' own Lean function (tested against real Go, not proved from fmt's source: count such statements apart). THE CARD IS WHAT COUNTS. Prove the row's statement (the work); the ties are given (YtfkecmlmnhbmoaaGreatDoorTie.lean); close each card by the builder's one call (the guide's Derived/Test/ToyasCard.lean, 'card_holds'). Laid BY PROGRAM, IN A SANDBOX (cutbox-door.mjs). By AI agents, Wed Nov 11 2026. No macro, syntax, notation, axiom, sorry.
-/
import Derived.Test.YtfkecmlmnhbmoaaGreatDoorRows
import GoSem.ClaimSeven
namespace Go.Proofs.YtfkecmlmnhbmoaaGreatDoor
namespace Rows

/-- THE TIED CARD OF 'laws.FnPrint'. -/
def fnPrintCard : Claim7 := { stood := { row := fnPrintRow, standIns := [], harness := (true, "4d4ff2523b5d36cd016f78a5fb8238fc781ce3c85dd2949b29fb79b9dedc8c11"), looks := true }, kinds := [], alts := [], laidByText := true, laidKinds := [.data, .data, .widerDeep, .widerDeep, .data, .data, .data, .data, .data, .sentinel, .sentinel, .pinned, .pinned], laidTests := true, laidLooks := .later }
def FnPrintCardSaid : Prop := Claim7.holds Tryz.pinned (.plain (OpenSpec.ofChange fnPrintSpec)) fnPrintCard

/-- THE TIED CARD OF 'laws.FnParse'. -/
def fnParseCard : Claim7 := { stood := { row := fnParseRow, standIns := [], harness := (true, "4d4ff2523b5d36cd016f78a5fb8238fc781ce3c85dd2949b29fb79b9dedc8c11"), looks := true }, kinds := [], alts := [], laidByText := true, laidKinds := [.data, .data, .widerDeep, .widerDeep, .data, .data, .data, .data, .data, .data, .sentinel, .sentinel, .sentinel, .sentinel, .sentinel, .sentinel, .sentinel, .sentinel, .sentinel, .sentinel, .sentinel, .sentinel, .sentinel, .sentinel, .sentinel, .pinned, .pinned, .pinned], laidTests := true, laidLooks := .later }
def FnParseCardSaid : Prop := Claim7.holds Tryz.pinned (.plain (OpenSpec.ofChange fnParseSpec)) fnParseCard

/-- THE TIED CARD OF 'laws.FnParsePrint'. -/
def fnParsePrintCard : Claim7 := { stood := { row := fnParsePrintRow, standIns := [], harness := (true, "4d4ff2523b5d36cd016f78a5fb8238fc781ce3c85dd2949b29fb79b9dedc8c11"), looks := true }, kinds := [], alts := [], laidByText := true, laidKinds := [.data, .data, .widerDeep, .widerDeep, .data, .data, .data, .data, .data, .data, .sentinel, .sentinel, .sentinel, .sentinel, .sentinel, .sentinel, .sentinel, .sentinel, .sentinel, .sentinel, .sentinel, .sentinel, .sentinel, .sentinel, .sentinel, .pinned, .pinned, .pinned], laidTests := true, laidLooks := .later }
def FnParsePrintCardSaid : Prop := Claim7.holds Tryz.pinned (.plain (OpenSpec.ofChange fnParsePrintSpec)) fnParsePrintCard

/-- THE SECOND FORM's CARD OF 'laws.FnPrint'. -/
def fnPrintUptoCard : Claim7 := { stood := { row := fnPrintUptoRow, standIns := [], harness := (true, "4d4ff2523b5d36cd016f78a5fb8238fc781ce3c85dd2949b29fb79b9dedc8c11"), looks := true }, kinds := [], alts := [], laidByText := true, laidKinds := [.data, .data, .widerDeep, .widerDeep, .data, .data, .data, .data, .data, .sentinel, .sentinel, .pinned, .pinned], laidTests := true, laidLooks := .later }
def FnPrintUptoCardSaid : Prop := Claim7.holds Tryz.pinned (.plain (OpenSpec.upto fnPrintSpec)) fnPrintUptoCard

/-- THE SECOND FORM's CARD OF 'laws.FnParse'. -/
def fnParseUptoCard : Claim7 := { stood := { row := fnParseUptoRow, standIns := [], harness := (true, "4d4ff2523b5d36cd016f78a5fb8238fc781ce3c85dd2949b29fb79b9dedc8c11"), looks := true }, kinds := [], alts := [], laidByText := true, laidKinds := [.data, .data, .widerDeep, .widerDeep, .data, .data, .data, .data, .data, .data, .sentinel, .sentinel, .sentinel, .sentinel, .sentinel, .sentinel, .sentinel, .sentinel, .sentinel, .sentinel, .sentinel, .sentinel, .sentinel, .sentinel, .sentinel, .pinned, .pinned, .pinned], laidTests := true, laidLooks := .later }
def FnParseUptoCardSaid : Prop := Claim7.holds Tryz.pinned (.plain (OpenSpec.upto fnParseSpec)) fnParseUptoCard

/-- THE SECOND FORM's CARD OF 'laws.FnParsePrint'. -/
def fnParsePrintUptoCard : Claim7 := { stood := { row := fnParsePrintUptoRow, standIns := [], harness := (true, "4d4ff2523b5d36cd016f78a5fb8238fc781ce3c85dd2949b29fb79b9dedc8c11"), looks := true }, kinds := [], alts := [], laidByText := true, laidKinds := [.data, .data, .widerDeep, .widerDeep, .data, .data, .data, .data, .data, .data, .sentinel, .sentinel, .sentinel, .sentinel, .sentinel, .sentinel, .sentinel, .sentinel, .sentinel, .sentinel, .sentinel, .sentinel, .sentinel, .sentinel, .sentinel, .pinned, .pinned, .pinned], laidTests := true, laidLooks := .later }
def FnParsePrintUptoCardSaid : Prop := Claim7.holds Tryz.pinned (.plain (OpenSpec.upto fnParsePrintSpec)) fnParsePrintUptoCard
end Rows
end Go.Proofs.YtfkecmlmnhbmoaaGreatDoor
