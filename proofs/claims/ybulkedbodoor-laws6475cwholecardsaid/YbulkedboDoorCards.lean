/-
  DERIVED. GIVEN WITH THE SEED: THE CARDS: each row of YbulkedboDoorRows.lean that lists a variable, with what it lists TIED to the program's text (the seventh form; the later family's looks); each row that meets fmt, with fmt's text TOLD by the authors' own Lean function (tested against real Go, not proved from fmt's source: count such statements apart). THE CARD IS WHAT COUNTS. Prove the row's statement (the work); the ties are given (YbulkedboDoorTie.lean); close each card by the builder's one call (the guide's Derived/Test/ToyasCard.lean, 'card_holds'). Laid BY PROGRAM, IN A SANDBOX (cutbox-door.mjs). By AI agents, Wed Nov 11 2026. No macro, syntax, notation, axiom, sorry.
-/
import Derived.Test.YbulkedboDoorRows
import GoSem.ClaimSeven
namespace Go.Proofs.YbulkedboDoor
namespace Rows

/-- THE TIED CARD OF 'computus.LawS6475AWhole'. -/
def lawS6475AWholeCard : Claim7 := { stood := { row := lawS6475AWholeRow, standIns := [], harness := (true, "dfcf9448b9fb54dfa94727e8d3297e59b6d11f4fbbab4078514df6831983ef54"), looks := false }, kinds := [], alts := [], laidByText := true, laidKinds := [.widerDeep], laidTests := true, laidLooks := .later }
def LawS6475AWholeCardSaid : Prop := Claim7.holds Ybad.pinned (.plain (OpenSpec.ofChange lawS6475AWholeSpec)) lawS6475AWholeCard

/-- THE TIED CARD OF 'computus.LawS6475CWhole'. -/
def lawS6475CWholeCard : Claim7 := { stood := { row := lawS6475CWholeRow, standIns := [], harness := (true, "dfcf9448b9fb54dfa94727e8d3297e59b6d11f4fbbab4078514df6831983ef54"), looks := false }, kinds := [], alts := [], laidByText := true, laidKinds := [.wider], laidTests := true, laidLooks := .later }
def LawS6475CWholeCardSaid : Prop := Claim7.holds Ybad.pinned (.plain (OpenSpec.ofChange lawS6475CWholeSpec)) lawS6475CWholeCard
end Rows
end Go.Proofs.YbulkedboDoor
