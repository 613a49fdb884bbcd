/-
  NARROWER THAN 'FOR EVERY INPUT', by the rows' own cells (each row's printed sentence says how): LawS3222AV4: laid · LawS3222AV6: laid.
  DERIVED. THE GIVEN ROWS OF THIS SEAT. 2 by the template 'for every input the law returns true; each argument reads behind the call as it read before'; 0 by the template 'total and deterministic' (their statements: YbulkbnryDoorTotals.lean).
  GIVEN WITH THE SEED: the statements are not yours to turn. If you find one false, say at which input.
  Laid BY PROGRAM, IN A SANDBOX (cutbox-rows.mjs): the forced cells as the released guide's own fill.sh prints them over the translation 010c4420b885eb9d… (all of the seat's roots in one cut). By AI agents, Wed Nov 11 2026. No macro, syntax, notation, axiom, sorry.
-/
import Derived.Test.YbulkbnryDoorChecked
import GoSem.Claim
import GoSem.ClaimJoined
import GoSem.ClaimMapViews
import Derived.JoinedTies
import Derived.KernelRfl
namespace Go.Proofs.YbulkbnryDoor
/- THE CELL 'sum', in the pinned program and in every row, IS THE sha256 OF THE DUMP (.gsa) THAT YbulkbnryDoorProg.lean LOADS. Nothing in Lean hashes anything: it is a label: what it is worth is what the hold of that sum in a sandbox is worth. -/
noncomputable def Ybad.pinned : Pinned := { name := "ybulkbnrydoor", sum := "010c4420b885eb9debf6dcecd111c2f009e72a542c95d78e2ccad54a71cddbfa", checked := Ybad.checked }
namespace Rows
def none {H : Type} : Left H := { results := [], args := [] }

/- WHAT THE LISTED PACKAGE-LEVEL VARIABLES READ AS WHEN THE CALL BEGINS. Each datum BY PROGRAM (the guide's laid-datum.mjs) off the statement by which the dump's own 'gosem.cut.vars' lays the variable. In a bare row this is a premise. The card (YbulkbnryDoorCards.lean) ties it to the program's text. -/
def laid_net_netip_z4 {H : Type} : DataW H := .agg [.ptr (.agg [.lit (.bool false), .lit (.string [])])]
def laid_net_netip_z0 {H : Type} : DataW H := .agg [.nil]
def laid_net_netip_z6noz {H : Type} : DataW H := .agg [.ptr (.agg [.lit (.bool true), .lit (.string [])])]

/-- 'acl.LawS3222AV4': WHATEVER THE INPUT: true; the input reads as it did. -/
def lawS3222AV4Spec : ChangeSpec := { name := "lawS3222AV4", fn := fun _ => fun
  | [d1, d2, d3, d4] => { results := [.lit (.bool true)], args := [d1, d2, d3, d4] }
  | _ => none }
def lawS3222AV4Row : OpenClaim := { program := "ybulkbnrydoor", sum := "010c4420b885eb9debf6dcecd111c2f009e72a542c95d78e2ccad54a71cddbfa", func := "example.com/answer-knobs/answer-knobs/internal/acl.LawS3222AV4", spec := "lawS3222AV4", unfollowed := true, recurses := true, named := ["net/netip.z4", "encoding/binary.BigEndian", "net/netip.z0"], apart := false, laid := [("net/netip.z4", laid_net_netip_z4), ("net/netip.z0", laid_net_netip_z0)] }
def LawS3222AV4Said : Prop := lawS3222AV4Row.holds Ybad.pinned (OpenSpec.ofChange lawS3222AV4Spec)

/-- ITS FALSE NEIGHBOUR: 'it returns false'. Refute it at one input. -/
def lawS3222AV4Wrong : ChangeSpec := { name := "lawS3222AV4", fn := fun _ => fun
  | [d1, d2, d3, d4] => { results := [.lit (.bool false)], args := [d1, d2, d3, d4] }
  | _ => none }
def LawS3222AV4WrongFalsely : Prop := lawS3222AV4Row.holds Ybad.pinned (OpenSpec.ofChange lawS3222AV4Wrong)

/-- 'acl.LawS3222AV6': WHATEVER THE INPUT: true; the input reads as it did. -/
def lawS3222AV6Spec : ChangeSpec := { name := "lawS3222AV6", fn := fun _ => fun
  | [d1, d2, d3, d4, d5] => { results := [.lit (.bool true)], args := [d1, d2, d3, d4, d5] }
  | _ => none }
def lawS3222AV6Row : OpenClaim := { program := "ybulkbnrydoor", sum := "010c4420b885eb9debf6dcecd111c2f009e72a542c95d78e2ccad54a71cddbfa", func := "example.com/answer-knobs/answer-knobs/internal/acl.LawS3222AV6", spec := "lawS3222AV6", unfollowed := true, recurses := true, named := ["encoding/binary.BigEndian", "net/netip.z6noz", "net/netip.z4", "net/netip.z0"], apart := false, laid := [("net/netip.z4", laid_net_netip_z4), ("net/netip.z6noz", laid_net_netip_z6noz), ("net/netip.z0", laid_net_netip_z0)] }
def LawS3222AV6Said : Prop := lawS3222AV6Row.holds Ybad.pinned (OpenSpec.ofChange lawS3222AV6Spec)

/-- ITS FALSE NEIGHBOUR: 'it returns false'. Refute it at one input. -/
def lawS3222AV6Wrong : ChangeSpec := { name := "lawS3222AV6", fn := fun _ => fun
  | [d1, d2, d3, d4, d5] => { results := [.lit (.bool false)], args := [d1, d2, d3, d4, d5] }
  | _ => none }
def LawS3222AV6WrongFalsely : Prop := lawS3222AV6Row.holds Ybad.pinned (OpenSpec.ofChange lawS3222AV6Wrong)

end Rows
end Go.Proofs.YbulkbnryDoor
