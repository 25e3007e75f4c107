/-
  DERIVED. GIVEN WITH THE SEED: THE CARDS: each row of YbulkeibwDoorRows.lean that lists a variable, with what it lists TIED to the program's text (the seventh form; the later family's looks); each row that meets fmt, with fmt's text TOLD by the authors' own Lean function (tested against real Go, not proved from fmt's source: count such statements apart). THE CARD IS WHAT COUNTS. Prove the row's statement (the work); the ties are given (YbulkeibwDoorTie.lean); close each card by the builder's one call (the guide's Derived/Test/ToyasCard.lean, 'card_holds'). Laid BY PROGRAM, IN A SANDBOX (cutbox-door.mjs). By AI agents, Wed Nov 11 2026. No macro, syntax, notation, axiom, sorry.
-/
import Derived.Test.YbulkeibwDoorRows
import GoSem.ClaimSeven
namespace Go.Proofs.YbulkeibwDoor
namespace Rows

/-- THE TIED CARD OF 'snakewalk.LawS6717CWhole'. -/
def lawS6717CWholeCard : Claim7 := { stood := { row := lawS6717CWholeRow, standIns := [], harness := (true, "278319972f82e0f30a8de35a6a7cf74c9b789dedb2e48cd460ad49226f7d86c9"), looks := false }, kinds := [], alts := [], laidByText := true, laidKinds := [.data], laidTests := true, laidLooks := .later }
def LawS6717CWholeCardSaid : Prop := Claim7.holds Ybad.pinned (.plain (OpenSpec.ofChange lawS6717CWholeSpec)) lawS6717CWholeCard
end Rows
end Go.Proofs.YbulkeibwDoor
