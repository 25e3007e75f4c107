/-
  No cell of these rows narrows 'for every input' (looked for: loops, veiled, ifaces, maps, wideKeys, modest, calm, conditions, laid).
  DERIVED. THE GIVEN ROWS OF THIS SEAT. 1 by the template 'for every input the law returns true; each argument reads behind the call as it read before'; 0 by the template 'total and deterministic' (their statements: YbulkeickTotals.lean).
  GIVEN WITH THE SEED: the statements are not yours to turn. If you find one false, say at which input.
  Laid BY PROGRAM, IN A SANDBOX (cutbox-rows.mjs): the forced cells as the released guide's own fill.sh prints them over the translation c1d5a9c0d93577bf… (all of the seat's roots in one cut). By AI agents, Wed Nov 11 2026. No macro, syntax, notation, axiom, sorry.
-/
import Derived.Test.YbulkeickChecked
import GoSem.Claim
import GoSem.ClaimJoined
import GoSem.ClaimMapViews
import Derived.JoinedTies
import Derived.KernelRfl
namespace Go.Proofs.Ybulkeick
/- THE CELL 'sum', in the pinned program and in every row, IS THE sha256 OF THE DUMP (.gsa) THAT YbulkeickProg.lean LOADS. Nothing in Lean hashes anything: it is a label: what it is worth is what the hold of that sum in a sandbox is worth. -/
noncomputable def Yba.pinned : Pinned := { name := "ybulkeick", sum := "c1d5a9c0d93577bf630dd1c8e87b523e6870cf6b43e8580ef71e29c843d47d37", checked := Yba.checked }
namespace Rows
def none {H : Type} : Left H := { results := [], args := [] }

/-- 'arcstep.LawS6718BWhole': WHATEVER THE INPUT: true; the input reads as it did. -/
def lawS6718BWholeSpec : ChangeSpec := { name := "lawS6718BWhole", fn := fun _ => fun
  | [d1, d2] => { results := [.lit (.bool true)], args := [d1, d2] }
  | _ => none }
def lawS6718BWholeRow : OpenClaim := { program := "ybulkeick", sum := "c1d5a9c0d93577bf630dd1c8e87b523e6870cf6b43e8580ef71e29c843d47d37", func := "example.com/arcstep/arcstep.LawS6718BWhole", spec := "lawS6718BWhole", apart := false }
def LawS6718BWholeSaid : Prop := lawS6718BWholeRow.holds Yba.pinned (OpenSpec.ofChange lawS6718BWholeSpec)

/-- ITS FALSE NEIGHBOUR: 'it returns false'. Refute it at one input. -/
def lawS6718BWholeWrong : ChangeSpec := { name := "lawS6718BWhole", fn := fun _ => fun
  | [d1, d2] => { results := [.lit (.bool false)], args := [d1, d2] }
  | _ => none }
def LawS6718BWholeWrongFalsely : Prop := lawS6718BWholeRow.holds Yba.pinned (OpenSpec.ofChange lawS6718BWholeWrong)

end Rows
end Go.Proofs.Ybulkeick
