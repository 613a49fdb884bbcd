/-
  DERIVED. GIVEN WITH THE SEED: THE CARDS: each row of YbulkbntaFmtRows.lean that lists a variable, with what it lists TIED to the program's text (the seventh form; the later family's looks); each row that meets fmt, with fmt's text TOLD by the authors' own Lean function (tested against real Go, not proved from fmt's source: count such statements apart). THE CARD IS WHAT COUNTS. Prove the row's statement (the work); the ties are given (YbulkbntaFmtTie.lean); close each card by the builder's one call (the guide's Derived/Test/ToyasCard.lean, 'card_holds'). Laid BY PROGRAM, IN A SANDBOX (cutbox-door.mjs). By AI agents, Wed Nov 11 2026. No macro, syntax, notation, axiom, sorry.
-/
import Derived.Test.YbulkbntaFmtRows
import GoSem.ClaimSeven
namespace Go.Proofs.YbulkbntaFmt
namespace Rows

/-- THE TOLD AND TIED CARD OF 'cmd.LawS3224AAnyString'. -/
def lawS3224AAnyStringCard : Claim7 := { stood := { row := lawS3224AAnyStringRow, standIns := [], harness := (true, "5a6d2ef34616d7e38054e2a2bd4a18acd7055673853157ecb592161728fb934e"), looks := true }, told := true, laidByText := true, laidKinds := [.data, .data, .data, .sentinel, .sentinel], laidTests := true, laidLooks := .later, goes := false }
def LawS3224AAnyStringToldSaid : Prop := Claim7.holds Ybaf.pinned (.plain (OpenSpec.ofChange lawS3224AAnyStringSpec)) lawS3224AAnyStringCard
/-- ITS FALSE NEIGHBOUR. Refute it at one input. -/
def LawS3224AAnyStringToldWrongFalsely : Prop := Claim7.holds Ybaf.pinned (.plain (OpenSpec.ofChange lawS3224AAnyStringWrong)) lawS3224AAnyStringCard

/-- THE TOLD AND TIED CARD OF 'cmd.LawS3224ADigits'. -/
def lawS3224ADigitsCard : Claim7 := { stood := { row := lawS3224ADigitsRow, standIns := [], harness := (true, "5a6d2ef34616d7e38054e2a2bd4a18acd7055673853157ecb592161728fb934e"), looks := true }, told := true, laidByText := true, laidKinds := [.data, .data, .data, .sentinel, .sentinel], laidTests := true, laidLooks := .later, goes := false }
def LawS3224ADigitsToldSaid : Prop := Claim7.holds Ybaf.pinned (.plain (OpenSpec.ofChange lawS3224ADigitsSpec)) lawS3224ADigitsCard
/-- ITS FALSE NEIGHBOUR. Refute it at one input. -/
def LawS3224ADigitsToldWrongFalsely : Prop := Claim7.holds Ybaf.pinned (.plain (OpenSpec.ofChange lawS3224ADigitsWrong)) lawS3224ADigitsCard
end Rows
end Go.Proofs.YbulkbntaFmt
