/-
  DERIVED. GIVEN WITH THE SEED: THE CARDS: each row of YbulkbnryDoorRows.lean that lists a variable, with what it lists TIED to the program's text (the seventh form; the later family's looks); each row that meets fmt, with fmt's text TOLD by the authors' own Lean function (tested against real Go, not proved from fmt's source: count such statements apart). THE CARD IS WHAT COUNTS. Prove the row's statement (the work); the ties are given (YbulkbnryDoorTie.lean); close each card by the builder's one call (the guide's Derived/Test/ToyasCard.lean, 'card_holds'). Laid BY PROGRAM, IN A SANDBOX (cutbox-door.mjs). By AI agents, Wed Nov 11 2026. No macro, syntax, notation, axiom, sorry.
-/
import Derived.Test.YbulkbnryDoorRows
import GoSem.ClaimSeven
namespace Go.Proofs.YbulkbnryDoor
namespace Rows

/-- THE TIED CARD OF 'acl.LawS3222AV4'. -/
def lawS3222AV4Card : Claim7 := { stood := { row := lawS3222AV4Row, standIns := [], harness := (true, "adde6af665b0296e1c1bed2211967476d9f8d1ac2cddb244a92db900ca0fab7e"), looks := false }, kinds := [], alts := [], laidByText := true, laidKinds := [.called, .zero], laidTests := true, laidLooks := .later }
def LawS3222AV4CardSaid : Prop := Claim7.holds Ybad.pinned (.plain (OpenSpec.ofChange lawS3222AV4Spec)) lawS3222AV4Card

/-- THE TIED CARD OF 'acl.LawS3222AV6'. -/
def lawS3222AV6Card : Claim7 := { stood := { row := lawS3222AV6Row, standIns := [], harness := (true, "adde6af665b0296e1c1bed2211967476d9f8d1ac2cddb244a92db900ca0fab7e"), looks := false }, kinds := [], alts := [], laidByText := true, laidKinds := [.called, .called, .zero], laidTests := true, laidLooks := .later }
def LawS3222AV6CardSaid : Prop := Claim7.holds Ybad.pinned (.plain (OpenSpec.ofChange lawS3222AV6Spec)) lawS3222AV6Card
end Rows
end Go.Proofs.YbulkbnryDoor
