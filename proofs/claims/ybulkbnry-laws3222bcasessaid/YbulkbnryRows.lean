/-
  No cell of these rows narrows 'for every input' (looked for: loops, veiled, ifaces, maps, wideKeys, modest, calm, conditions, laid).
  DERIVED. THE GIVEN ROWS OF THIS SEAT. 2 by the template 'for every input the law returns true; each argument reads behind the call as it read before'; 0 by the template 'total and deterministic' (their statements: YbulkbnryTotals.lean).
  GIVEN WITH THE SEED: the statements are not yours to turn. If you find one false, say at which input.
  Laid BY PROGRAM, IN A SANDBOX (cutbox-rows.mjs): the forced cells as the released guide's own fill.sh prints them over the translation 8ecb6a948f468e1d… (all of the seat's roots in one cut). By AI agents, Wed Nov 11 2026. No macro, syntax, notation, axiom, sorry.
-/
import Derived.Test.YbulkbnryChecked
import GoSem.Claim
import GoSem.ClaimJoined
import GoSem.ClaimMapViews
import Derived.JoinedTies
import Derived.KernelRfl
namespace Go.Proofs.Ybulkbnry
/- THE CELL 'sum', in the pinned program and in every row, IS THE sha256 OF THE DUMP (.gsa) THAT YbulkbnryProg.lean LOADS. Nothing in Lean hashes anything: it is a label: what it is worth is what the hold of that sum in a sandbox is worth. -/
noncomputable def Yba.pinned : Pinned := { name := "ybulkbnry", sum := "8ecb6a948f468e1dc31fcd0aea0b1a847fbe2a0318e8abea830c261c7851026c", checked := Yba.checked }
namespace Rows
def none {H : Type} : Left H := { results := [], args := [] }

/-- 'acl.LawS3222BCases': WHATEVER THE INPUT: true; the input reads as it did. -/
def lawS3222BCasesSpec : ChangeSpec := { name := "lawS3222BCases", fn := fun _ => fun
  | [d1, d2, d3, d4, d5, d6, d7, d8, d9, d10, d11, d12] => { results := [.lit (.bool true)], args := [d1, d2, d3, d4, d5, d6, d7, d8, d9, d10, d11, d12] }
  | _ => none }
def lawS3222BCasesRow : OpenClaim := { program := "ybulkbnry", sum := "8ecb6a948f468e1dc31fcd0aea0b1a847fbe2a0318e8abea830c261c7851026c", func := "example.com/answer-knobs/answer-knobs/internal/acl.LawS3222BCases", spec := "lawS3222BCases", apart := false }
def LawS3222BCasesSaid : Prop := lawS3222BCasesRow.holds Yba.pinned (OpenSpec.ofChange lawS3222BCasesSpec)

/-- ITS FALSE NEIGHBOUR: 'it returns false'. Refute it at one input. -/
def lawS3222BCasesWrong : ChangeSpec := { name := "lawS3222BCases", fn := fun _ => fun
  | [d1, d2, d3, d4, d5, d6, d7, d8, d9, d10, d11, d12] => { results := [.lit (.bool false)], args := [d1, d2, d3, d4, d5, d6, d7, d8, d9, d10, d11, d12] }
  | _ => none }
def LawS3222BCasesWrongFalsely : Prop := lawS3222BCasesRow.holds Yba.pinned (OpenSpec.ofChange lawS3222BCasesWrong)

/-- 'acl.LawS3222BSwap': WHATEVER THE INPUT: true; the input reads as it did. -/
def lawS3222BSwapSpec : ChangeSpec := { name := "lawS3222BSwap", fn := fun _ => fun
  | [d1, d2, d3, d4, d5, d6, d7, d8, d9, d10, d11, d12] => { results := [.lit (.bool true)], args := [d1, d2, d3, d4, d5, d6, d7, d8, d9, d10, d11, d12] }
  | _ => none }
def lawS3222BSwapRow : OpenClaim := { program := "ybulkbnry", sum := "8ecb6a948f468e1dc31fcd0aea0b1a847fbe2a0318e8abea830c261c7851026c", func := "example.com/answer-knobs/answer-knobs/internal/acl.LawS3222BSwap", spec := "lawS3222BSwap", apart := false }
def LawS3222BSwapSaid : Prop := lawS3222BSwapRow.holds Yba.pinned (OpenSpec.ofChange lawS3222BSwapSpec)

/-- ITS FALSE NEIGHBOUR: 'it returns false'. Refute it at one input. -/
def lawS3222BSwapWrong : ChangeSpec := { name := "lawS3222BSwap", fn := fun _ => fun
  | [d1, d2, d3, d4, d5, d6, d7, d8, d9, d10, d11, d12] => { results := [.lit (.bool false)], args := [d1, d2, d3, d4, d5, d6, d7, d8, d9, d10, d11, d12] }
  | _ => none }
def LawS3222BSwapWrongFalsely : Prop := lawS3222BSwapRow.holds Yba.pinned (OpenSpec.ofChange lawS3222BSwapWrong)

end Rows
end Go.Proofs.Ybulkbnry
