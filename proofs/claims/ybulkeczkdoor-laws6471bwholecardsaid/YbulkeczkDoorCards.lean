/-
  DERIVED. GIVEN WITH THE SEED: THE CARDS: each row of YbulkeczkDoorRows.lean that lists a variable, with what it lists TIED to the program's text (the seventh form; the later family's looks); each row that meets fmt, with fmt's text TOLD by the authors' own Lean function (tested against real Go, not proved from fmt's source: count such statements apart). THE CARD IS WHAT COUNTS. Prove the row's statement (the work); the ties are given (YbulkeczkDoorTie.lean); close each card by the builder's one call (the guide's Derived/Test/ToyasCard.lean, 'card_holds'). Laid BY PROGRAM, IN A SANDBOX (cutbox-door.mjs). By AI agents, Wed Nov 11 2026. No macro, syntax, notation, axiom, sorry.
-/
import Derived.Test.YbulkeczkDoorRows
import GoSem.ClaimSeven
namespace Go.Proofs.YbulkeczkDoor
namespace Rows

/-- THE TIED CARD OF 'policy.LawS6471BWhole'. -/
def lawS6471BWholeCard : Claim7 := { stood := { row := lawS6471BWholeRow, standIns := [], harness := (true, "12e6ed878a13786e486d41953155e75bbaed4d870fc10020e8fa79e1cf7eb560"), looks := false }, kinds := [], alts := [], laidByText := true, laidKinds := [.called], laidTests := true, laidLooks := .later }
def LawS6471BWholeCardSaid : Prop := Claim7.holds Ybad.pinned (.plain (OpenSpec.ofChange lawS6471BWholeSpec)) lawS6471BWholeCard

/-- THE TIED CARD OF 'analysis.LawS6471CWhole'. -/
def lawS6471CWholeCard : Claim7 := { stood := { row := lawS6471CWholeRow, standIns := [], harness := (true, "12e6ed878a13786e486d41953155e75bbaed4d870fc10020e8fa79e1cf7eb560"), looks := false }, kinds := [], alts := [], laidByText := true, laidKinds := [.called, .called, .zero], laidTests := true, laidLooks := .later }
def LawS6471CWholeCardSaid : Prop := Claim7.holds Ybad.pinned (.plain (OpenSpec.ofChange lawS6471CWholeSpec)) lawS6471CWholeCard
end Rows
end Go.Proofs.YbulkeczkDoor
