/-
  NARROWER THAN 'FOR EVERY INPUT', by the rows' own cells (each row's printed sentence says how): LawS6475AWhole: laid · LawS6475CWhole: laid.
  DERIVED. THE GIVEN ROWS OF THIS SEAT. 2 by the template 'for every input the law returns true; each argument reads behind the call as it read before'; 0 by the template 'total and deterministic' (their statements: YbulkedboDoorTotals.lean).
  GIVEN WITH THE SEED: the statements are not yours to turn. If you find one false, say at which input.
  Laid BY PROGRAM, IN A SANDBOX (cutbox-rows.mjs): the forced cells as the released guide's own fill.sh prints them over the translation 62ed6cbd94e04c8d… (all of the seat's roots in one cut). By AI agents, Wed Nov 11 2026. No macro, syntax, notation, axiom, sorry.
-/
import Derived.Test.YbulkedboDoorChecked
import GoSem.Claim
import GoSem.ClaimJoined
import GoSem.ClaimMapViews
import Derived.JoinedTies
import Derived.KernelRfl
namespace Go.Proofs.YbulkedboDoor
/- THE CELL 'sum', in the pinned program and in every row, IS THE sha256 OF THE DUMP (.gsa) THAT YbulkedboDoorProg.lean LOADS. Nothing in Lean hashes anything: it is a label: what it is worth is what the hold of that sum in a sandbox is worth. -/
noncomputable def Ybad.pinned : Pinned := { name := "ybulkedbodoor", sum := "62ed6cbd94e04c8d78f88e83306d88582881a47619e7004feac7786fee3ff03b", checked := Ybad.checked }
namespace Rows
def none {H : Type} : Left H := { results := [], args := [] }

/- WHAT THE LISTED PACKAGE-LEVEL VARIABLES READ AS WHEN THE CALL BEGINS. Each datum BY PROGRAM (the guide's laid-datum.mjs) off the statement by which the dump's own 'gosem.cut.vars' lays the variable. In a bare row this is a premise. The card (YbulkedboDoorCards.lean) ties it to the program's text. -/
def laid_example_com_computus_computus_weekdayCodes {H : Type} : DataW H := .agg [.lit (.string [83, 85]), .lit (.string [77, 79]), .lit (.string [84, 85]), .lit (.string [87, 69]), .lit (.string [84, 72]), .lit (.string [70, 82]), .lit (.string [83, 65])]
def laid_example_com_computus_computus_monthDays {H : Type} : DataW H := .agg [.lit (.int .i64 31), .lit (.int .i64 30), .lit (.int .i64 31), .lit (.int .i64 30), .lit (.int .i64 31), .lit (.int .i64 31), .lit (.int .i64 30), .lit (.int .i64 31), .lit (.int .i64 30), .lit (.int .i64 31)]

/-- 'computus.LawS6475AWhole': WHATEVER THE INPUT: true; the input reads as it did. -/
def lawS6475AWholeSpec : ChangeSpec := { name := "lawS6475AWhole", vars := ["example.com/computus/computus.weekdayCodes"], fn := fun _ => fun
  | [d1, d2, d3, d4, d5, d6, d7, d8, g1] => { results := [.lit (.bool true)], args := [d1, d2, d3, d4, d5, d6, d7, d8], vars := [g1] }
  | _ => none }
def lawS6475AWholeRow : OpenClaim := { program := "ybulkedbodoor", sum := "62ed6cbd94e04c8d78f88e83306d88582881a47619e7004feac7786fee3ff03b", func := "example.com/computus/computus.LawS6475AWhole", spec := "lawS6475AWhole", inPlace := ["internal/bytealg.IndexByteString", "internal/bytealg.IndexString"], named := ["internal/bytealg.MaxLen", "example.com/computus/computus.weekdayCodes"], apart := false, laid := [("example.com/computus/computus.weekdayCodes", laid_example_com_computus_computus_weekdayCodes)] }
def LawS6475AWholeSaid : Prop := lawS6475AWholeRow.holds Ybad.pinned (OpenSpec.ofChange lawS6475AWholeSpec)

/-- ITS FALSE NEIGHBOUR: 'it returns false'. Refute it at one input. -/
def lawS6475AWholeWrong : ChangeSpec := { name := "lawS6475AWhole", vars := ["example.com/computus/computus.weekdayCodes"], fn := fun _ => fun
  | [d1, d2, d3, d4, d5, d6, d7, d8, g1] => { results := [.lit (.bool false)], args := [d1, d2, d3, d4, d5, d6, d7, d8], vars := [g1] }
  | _ => none }
def LawS6475AWholeWrongFalsely : Prop := lawS6475AWholeRow.holds Ybad.pinned (OpenSpec.ofChange lawS6475AWholeWrong)

/-- 'computus.LawS6475CWhole': WHATEVER THE INPUT: true; the input reads as it did. -/
def lawS6475CWholeSpec : ChangeSpec := { name := "lawS6475CWhole", vars := ["example.com/computus/computus.monthDays"], fn := fun _ => fun
  | [d, g1] => { results := [.lit (.bool true)], args := [d], vars := [g1] }
  | _ => none }
def lawS6475CWholeRow : OpenClaim := { program := "ybulkedbodoor", sum := "62ed6cbd94e04c8d78f88e83306d88582881a47619e7004feac7786fee3ff03b", func := "example.com/computus/computus.LawS6475CWhole", spec := "lawS6475CWhole", named := ["example.com/computus/computus.monthDays"], apart := false, laid := [("example.com/computus/computus.monthDays", laid_example_com_computus_computus_monthDays)] }
def LawS6475CWholeSaid : Prop := lawS6475CWholeRow.holds Ybad.pinned (OpenSpec.ofChange lawS6475CWholeSpec)

/-- ITS FALSE NEIGHBOUR: 'it returns false'. Refute it at one input. -/
def lawS6475CWholeWrong : ChangeSpec := { name := "lawS6475CWhole", vars := ["example.com/computus/computus.monthDays"], fn := fun _ => fun
  | [d, g1] => { results := [.lit (.bool false)], args := [d], vars := [g1] }
  | _ => none }
def LawS6475CWholeWrongFalsely : Prop := lawS6475CWholeRow.holds Ybad.pinned (OpenSpec.ofChange lawS6475CWholeWrong)

end Rows
end Go.Proofs.YbulkedboDoor
