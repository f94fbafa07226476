/-
  NARROWER THAN 'FOR EVERY INPUT', by the rows' own cells (each row's printed sentence says how): LawS6471BWhole: laid · LawS6471CWhole: laid.
  DERIVED. THE GIVEN ROWS OF THIS SEAT. 2 by the template 'for every input the law returns true; each argument reads behind the call as it read before'; 0 by the template 'total and deterministic' (their statements: YbulkeczkDoorTotals.lean).
  GIVEN WITH THE SEED: the statements are not yours to turn. If you find one false, say at which input.
  Laid BY PROGRAM, IN A SANDBOX (cutbox-rows.mjs): the forced cells as the released guide's own fill.sh prints them over the translation 1117456536fdd23d… (all of the seat's roots in one cut). By AI agents, Wed Nov 11 2026. No macro, syntax, notation, axiom, sorry.
-/
import Derived.Test.YbulkeczkDoorChecked
import GoSem.Claim
import GoSem.ClaimJoined
import GoSem.ClaimMapViews
import Derived.JoinedTies
import Derived.KernelRfl
namespace Go.Proofs.YbulkeczkDoor
/- THE CELL 'sum', in the pinned program and in every row, IS THE sha256 OF THE DUMP (.gsa) THAT YbulkeczkDoorProg.lean LOADS. Nothing in Lean hashes anything: it is a label: what it is worth is what the hold of that sum in a sandbox is worth. -/
noncomputable def Ybad.pinned : Pinned := { name := "ybulkeczkdoor", sum := "1117456536fdd23dec6b9a5921cb50994ee4d26f4f662491579746015111ec6b", checked := Ybad.checked }
namespace Rows
def none {H : Type} : Left H := { results := [], args := [] }

/- WHAT THE LISTED PACKAGE-LEVEL VARIABLES READ AS WHEN THE CALL BEGINS. Each datum BY PROGRAM (the guide's laid-datum.mjs) off the statement by which the dump's own 'gosem.cut.vars' lays the variable. In a bare row this is a premise. The card (YbulkeczkDoorCards.lean) ties it to the program's text. -/
def laid_net_netip_z4 {H : Type} : DataW H := .agg [.ptr (.agg [.lit (.bool false), .lit (.string [])])]
def laid_net_netip_z6noz {H : Type} : DataW H := .agg [.ptr (.agg [.lit (.bool true), .lit (.string [])])]
def laid_net_netip_z0 {H : Type} : DataW H := .agg [.nil]

/-- 'policy.LawS6471BWhole': WHATEVER THE INPUT: true; the input reads as it did. -/
def lawS6471BWholeSpec : ChangeSpec := { name := "lawS6471BWhole", fn := fun _ => fun
  | [d1, d2, d3, d4, d5] => { results := [.lit (.bool true)], args := [d1, d2, d3, d4, d5] }
  | _ => none }
def lawS6471BWholeRow : OpenClaim := { program := "ybulkeczkdoor", sum := "1117456536fdd23dec6b9a5921cb50994ee4d26f4f662491579746015111ec6b", func := "example.com/polycy/polycy/pkg/policy.LawS6471BWhole", spec := "lawS6471BWhole", named := ["net/netip.z4"], plainKeys := false, apart := false, laid := [("net/netip.z4", laid_net_netip_z4)] }
def LawS6471BWholeSaid : Prop := lawS6471BWholeRow.holds Ybad.pinned (OpenSpec.ofChange lawS6471BWholeSpec)

/-- ITS FALSE NEIGHBOUR: 'it returns false'. Refute it at one input. -/
def lawS6471BWholeWrong : ChangeSpec := { name := "lawS6471BWhole", fn := fun _ => fun
  | [d1, d2, d3, d4, d5] => { results := [.lit (.bool false)], args := [d1, d2, d3, d4, d5] }
  | _ => none }
def LawS6471BWholeWrongFalsely : Prop := lawS6471BWholeRow.holds Ybad.pinned (OpenSpec.ofChange lawS6471BWholeWrong)

/-- 'analysis.LawS6471CWhole': WHATEVER THE INPUT: true; the input reads as it did. -/
def lawS6471CWholeSpec : ChangeSpec := { name := "lawS6471CWhole", fn := fun _ => fun
  | [d1, d2, d3, d4, d5, d6, d7, d8] => { results := [.lit (.bool true)], args := [d1, d2, d3, d4, d5, d6, d7, d8] }
  | _ => none }
def lawS6471CWholeRow : OpenClaim := { program := "ybulkeczkdoor", sum := "1117456536fdd23dec6b9a5921cb50994ee4d26f4f662491579746015111ec6b", func := "example.com/polycy/polycy/pkg/analysis.LawS6471CWhole", spec := "lawS6471CWhole", unfollowed := true, recurses := true, named := ["net/netip.z4", "net/netip.z6noz", "net/netip.z0", "encoding/binary.BigEndian"], plainKeys := false, apart := false, laid := [("net/netip.z4", laid_net_netip_z4), ("net/netip.z6noz", laid_net_netip_z6noz), ("net/netip.z0", laid_net_netip_z0)] }
def LawS6471CWholeSaid : Prop := lawS6471CWholeRow.holds Ybad.pinned (OpenSpec.ofChange lawS6471CWholeSpec)

/-- ITS FALSE NEIGHBOUR: 'it returns false'. Refute it at one input. -/
def lawS6471CWholeWrong : ChangeSpec := { name := "lawS6471CWhole", fn := fun _ => fun
  | [d1, d2, d3, d4, d5, d6, d7, d8] => { results := [.lit (.bool false)], args := [d1, d2, d3, d4, d5, d6, d7, d8] }
  | _ => none }
def LawS6471CWholeWrongFalsely : Prop := lawS6471CWholeRow.holds Ybad.pinned (OpenSpec.ofChange lawS6471CWholeWrong)

end Rows
end Go.Proofs.YbulkeczkDoor
