/-
  DERIVED. GIVEN WITH THE SEED: THE CARDS: each row of YbulkbnxwFmtRows.lean that lists a variable, with what it lists TIED to the program's text (the seventh form; the later family's looks); each row that meets fmt, with fmt's text TOLD by the authors' own Lean function (tested against real Go, not proved from fmt's source: count such statements apart). THE CARD IS WHAT COUNTS. Prove the row's statement (the work); the ties are given (YbulkbnxwFmtTie.lean); close each card by the builder's one call (the guide's Derived/Test/ToyasCard.lean, 'card_holds'). Laid BY PROGRAM, IN A SANDBOX (cutbox-door.mjs). By AI agents, Wed Nov 11 2026. No macro, syntax, notation, axiom, sorry.
-/
import Derived.Test.YbulkbnxwFmtRows
import GoSem.ClaimSeven
namespace Go.Proofs.YbulkbnxwFmt
namespace Rows

/-- THE TOLD AND TIED CARD OF 'scenario.LawS3233BSmall'. -/
def lawS3233BSmallCard : Claim7 := { stood := { row := lawS3233BSmallRow, standIns := [], harness := (true, "6032407dfe4292cf4e9153997cdef9d5e5dc2d494183932cd6625c03e485d298"), looks := true }, told := true, laidByText := true, laidKinds := [.data, .data, .data, .data, .called, .pinned, .pinned], laidTests := true, laidLooks := .later, goes := false }
def LawS3233BSmallToldSaid : Prop := Claim7.holds Ybaf.pinned (.plain (OpenSpec.ofChange lawS3233BSmallSpec)) lawS3233BSmallCard
/-- ITS FALSE NEIGHBOUR. Refute it at one input. -/
def LawS3233BSmallToldWrongFalsely : Prop := Claim7.holds Ybaf.pinned (.plain (OpenSpec.ofChange lawS3233BSmallWrong)) lawS3233BSmallCard

/-- THE TOLD AND TIED CARD OF 'scenario.LawS3233BLimit'. -/
def lawS3233BLimitCard : Claim7 := { stood := { row := lawS3233BLimitRow, standIns := [], harness := (true, "6032407dfe4292cf4e9153997cdef9d5e5dc2d494183932cd6625c03e485d298"), looks := true }, told := true, laidByText := true, laidKinds := [.data, .data, .data, .data, .called, .pinned, .pinned], laidTests := true, laidLooks := .later, goes := false }
def LawS3233BLimitToldSaid : Prop := Claim7.holds Ybaf.pinned (.plain (OpenSpec.ofChange lawS3233BLimitSpec)) lawS3233BLimitCard
/-- ITS FALSE NEIGHBOUR. Refute it at one input. -/
def LawS3233BLimitToldWrongFalsely : Prop := Claim7.holds Ybaf.pinned (.plain (OpenSpec.ofChange lawS3233BLimitWrong)) lawS3233BLimitCard

/-- THE TOLD CARD OF 'consensus.LawS3233CDecidesMajority'. -/
def lawS3233CDecidesMajorityCard : Claim7 := { stood := { row := lawS3233CDecidesMajorityRow, standIns := [], harness := (true, "6032407dfe4292cf4e9153997cdef9d5e5dc2d494183932cd6625c03e485d298"), looks := true }, told := true, goes := false }
def LawS3233CDecidesMajorityToldSaid : Prop := Claim7.holds Ybaf.pinned (.plain (OpenSpec.ofChange lawS3233CDecidesMajoritySpec)) lawS3233CDecidesMajorityCard
/-- ITS FALSE NEIGHBOUR. Refute it at one input. -/
def LawS3233CDecidesMajorityToldWrongFalsely : Prop := Claim7.holds Ybaf.pinned (.plain (OpenSpec.ofChange lawS3233CDecidesMajorityWrong)) lawS3233CDecidesMajorityCard

/-- THE TOLD CARD OF 'consensus.LawS3233CNoEarlyDecision'. -/
def lawS3233CNoEarlyDecisionCard : Claim7 := { stood := { row := lawS3233CNoEarlyDecisionRow, standIns := [], harness := (true, "6032407dfe4292cf4e9153997cdef9d5e5dc2d494183932cd6625c03e485d298"), looks := true }, told := true, goes := false }
def LawS3233CNoEarlyDecisionToldSaid : Prop := Claim7.holds Ybaf.pinned (.plain (OpenSpec.ofChange lawS3233CNoEarlyDecisionSpec)) lawS3233CNoEarlyDecisionCard
/-- ITS FALSE NEIGHBOUR. Refute it at one input. -/
def LawS3233CNoEarlyDecisionToldWrongFalsely : Prop := Claim7.holds Ybaf.pinned (.plain (OpenSpec.ofChange lawS3233CNoEarlyDecisionWrong)) lawS3233CNoEarlyDecisionCard
end Rows
end Go.Proofs.YbulkbnxwFmt
