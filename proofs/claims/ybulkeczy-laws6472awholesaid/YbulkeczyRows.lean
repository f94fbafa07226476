/-
  No cell of these rows narrows 'for every input' (looked for: loops, veiled, ifaces, maps, wideKeys, modest, calm, conditions, laid).
  DERIVED. THE GIVEN ROWS OF THIS SEAT. 2 by the template 'for every input the law returns true; each argument reads behind the call as it read before'; 0 by the template 'total and deterministic' (their statements: YbulkeczyTotals.lean).
  GIVEN WITH THE SEED: the statements are not yours to turn. If you find one false, say at which input.
  Laid BY PROGRAM, IN A SANDBOX (cutbox-rows.mjs): the forced cells as the released guide's own fill.sh prints them over the translation da9f6f2a846ea087… (all of the seat's roots in one cut). By AI agents, Wed Nov 11 2026. No macro, syntax, notation, axiom, sorry.
-/
import Derived.Test.YbulkeczyChecked
import GoSem.Claim
import GoSem.ClaimJoined
import GoSem.ClaimMapViews
import Derived.JoinedTies
import Derived.KernelRfl
namespace Go.Proofs.Ybulkeczy
/- THE CELL 'sum', in the pinned program and in every row, IS THE sha256 OF THE DUMP (.gsa) THAT YbulkeczyProg.lean LOADS. Nothing in Lean hashes anything: it is a label: what it is worth is what the hold of that sum in a sandbox is worth. -/
noncomputable def Yba.pinned : Pinned := { name := "ybulkeczy", sum := "da9f6f2a846ea087d5d3119f2d2c6728efb21453a63d1e15aad1126684e4551e", checked := Yba.checked }
namespace Rows
def none {H : Type} : Left H := { results := [], args := [] }

/-- 'query.LawS6472AWhole': WHATEVER THE INPUT: true; the input reads as it did. -/
def lawS6472AWholeSpec : ChangeSpec := { name := "lawS6472AWhole", fn := fun _ => fun
  | [d1, d2, d3, d4, d5, d6, d7] => { results := [.lit (.bool true)], args := [d1, d2, d3, d4, d5, d6, d7] }
  | _ => none }
def lawS6472AWholeRow : OpenClaim := { program := "ybulkeczy", sum := "da9f6f2a846ea087d5d3119f2d2c6728efb21453a63d1e15aad1126684e4551e", func := "example.com/pagewright/pagewright/pkg/query.LawS6472AWhole", spec := "lawS6472AWhole", apart := false }
def LawS6472AWholeSaid : Prop := lawS6472AWholeRow.holds Yba.pinned (OpenSpec.ofChange lawS6472AWholeSpec)

/-- ITS FALSE NEIGHBOUR: 'it returns false'. Refute it at one input. -/
def lawS6472AWholeWrong : ChangeSpec := { name := "lawS6472AWhole", fn := fun _ => fun
  | [d1, d2, d3, d4, d5, d6, d7] => { results := [.lit (.bool false)], args := [d1, d2, d3, d4, d5, d6, d7] }
  | _ => none }
def LawS6472AWholeWrongFalsely : Prop := lawS6472AWholeRow.holds Yba.pinned (OpenSpec.ofChange lawS6472AWholeWrong)

/-- 'sorting.LawS6472BWhole': WHATEVER THE INPUT: true; the input reads as it did. -/
def lawS6472BWholeSpec : ChangeSpec := { name := "lawS6472BWhole", fn := fun _ => fun
  | [d1, d2, d3, d4, d5] => { results := [.lit (.bool true)], args := [d1, d2, d3, d4, d5] }
  | _ => none }
def lawS6472BWholeRow : OpenClaim := { program := "ybulkeczy", sum := "da9f6f2a846ea087d5d3119f2d2c6728efb21453a63d1e15aad1126684e4551e", func := "example.com/pagewright/pagewright/pkg/sorting.LawS6472BWhole", spec := "lawS6472BWhole", apart := false }
def LawS6472BWholeSaid : Prop := lawS6472BWholeRow.holds Yba.pinned (OpenSpec.ofChange lawS6472BWholeSpec)

/-- ITS FALSE NEIGHBOUR: 'it returns false'. Refute it at one input. -/
def lawS6472BWholeWrong : ChangeSpec := { name := "lawS6472BWhole", fn := fun _ => fun
  | [d1, d2, d3, d4, d5] => { results := [.lit (.bool false)], args := [d1, d2, d3, d4, d5] }
  | _ => none }
def LawS6472BWholeWrongFalsely : Prop := lawS6472BWholeRow.holds Yba.pinned (OpenSpec.ofChange lawS6472BWholeWrong)

end Rows
end Go.Proofs.Ybulkeczy
