/-
  No cell of these rows narrows 'for every input' (looked for: loops, veiled, ifaces, maps, wideKeys, modest, calm, conditions, laid).
  DERIVED. THE GIVEN ROWS OF THIS SEAT. 1 by the template 'for every input the law returns true; each argument reads behind the call as it read before'; 0 by the template 'total and deterministic' (their statements: YbulkeicyTotals.lean).
  GIVEN WITH THE SEED: the statements are not yours to turn. If you find one false, say at which input.
  Laid BY PROGRAM, IN A SANDBOX (cutbox-rows.mjs): the forced cells as the released guide's own fill.sh prints them over the translation 7944050df5bf1926… (all of the seat's roots in one cut). By AI agents, Wed Nov 11 2026. No macro, syntax, notation, axiom, sorry.
-/
import Derived.Test.YbulkeicyChecked
import GoSem.Claim
import GoSem.ClaimJoined
import GoSem.ClaimMapViews
import Derived.JoinedTies
import Derived.KernelRfl
namespace Go.Proofs.Ybulkeicy
/- THE CELL 'sum', in the pinned program and in every row, IS THE sha256 OF THE DUMP (.gsa) THAT YbulkeicyProg.lean LOADS. Nothing in Lean hashes anything: it is a label: what it is worth is what the hold of that sum in a sandbox is worth. -/
noncomputable def Yba.pinned : Pinned := { name := "ybulkeicy", sum := "7944050df5bf192617a2982c14642205bcdae33601a5d47a58ae10f44e8c78fe", checked := Yba.checked }
namespace Rows
def none {H : Type} : Left H := { results := [], args := [] }

/-- 'clienthello.LawS6719BWhole': WHATEVER THE INPUT: true; the input reads as it did. -/
def lawS6719BWholeSpec : ChangeSpec := { name := "lawS6719BWhole", fn := fun _ => fun
  | [d1, d2] => { results := [.lit (.bool true)], args := [d1, d2] }
  | _ => none }
def lawS6719BWholeRow : OpenClaim := { program := "ybulkeicy", sum := "7944050df5bf192617a2982c14642205bcdae33601a5d47a58ae10f44e8c78fe", func := "example.com/hellopick/hellopick/clienthello.LawS6719BWhole", spec := "lawS6719BWhole", apart := false }
def LawS6719BWholeSaid : Prop := lawS6719BWholeRow.holds Yba.pinned (OpenSpec.ofChange lawS6719BWholeSpec)

/-- ITS FALSE NEIGHBOUR: 'it returns false'. Refute it at one input. -/
def lawS6719BWholeWrong : ChangeSpec := { name := "lawS6719BWhole", fn := fun _ => fun
  | [d1, d2] => { results := [.lit (.bool false)], args := [d1, d2] }
  | _ => none }
def LawS6719BWholeWrongFalsely : Prop := lawS6719BWholeRow.holds Yba.pinned (OpenSpec.ofChange lawS6719BWholeWrong)

end Rows
end Go.Proofs.Ybulkeicy
