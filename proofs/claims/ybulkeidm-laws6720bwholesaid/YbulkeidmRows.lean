/-
  No cell of these rows narrows 'for every input' (looked for: loops, veiled, ifaces, maps, wideKeys, modest, calm, conditions, laid).
  DERIVED. THE GIVEN ROWS OF THIS SEAT. 1 by the template 'for every input the law returns true; each argument reads behind the call as it read before'; 0 by the template 'total and deterministic' (their statements: YbulkeidmTotals.lean).
  GIVEN WITH THE SEED: the statements are not yours to turn. If you find one false, say at which input.
  Laid BY PROGRAM, IN A SANDBOX (cutbox-rows.mjs): the forced cells as the released guide's own fill.sh prints them over the translation 2e7c5898311e709e… (all of the seat's roots in one cut). By AI agents, Wed Nov 11 2026. No macro, syntax, notation, axiom, sorry.
-/
import Derived.Test.YbulkeidmChecked
import GoSem.Claim
import GoSem.ClaimJoined
import GoSem.ClaimMapViews
import Derived.JoinedTies
import Derived.KernelRfl
namespace Go.Proofs.Ybulkeidm
/- THE CELL 'sum', in the pinned program and in every row, IS THE sha256 OF THE DUMP (.gsa) THAT YbulkeidmProg.lean LOADS. Nothing in Lean hashes anything: it is a label: what it is worth is what the hold of that sum in a sandbox is worth. -/
noncomputable def Yba.pinned : Pinned := { name := "ybulkeidm", sum := "2e7c5898311e709e5e3731c74ac1ac84970d2dfabc292b612ffd5314f7951eed", checked := Yba.checked }
namespace Rows
def none {H : Type} : Left H := { results := [], args := [] }

/-- 'consilience.LawS6720BWhole': WHATEVER THE INPUT: true; the input reads as it did. -/
def lawS6720BWholeSpec : ChangeSpec := { name := "lawS6720BWhole", fn := fun _ => fun
  | [d1, d2] => { results := [.lit (.bool true)], args := [d1, d2] }
  | _ => none }
def lawS6720BWholeRow : OpenClaim := { program := "ybulkeidm", sum := "2e7c5898311e709e5e3731c74ac1ac84970d2dfabc292b612ffd5314f7951eed", func := "example.com/consilience/consilience.LawS6720BWhole", spec := "lawS6720BWhole", unfollowed := true, recurses := true, apart := false }
def LawS6720BWholeSaid : Prop := lawS6720BWholeRow.holds Yba.pinned (OpenSpec.ofChange lawS6720BWholeSpec)

/-- ITS FALSE NEIGHBOUR: 'it returns false'. Refute it at one input. -/
def lawS6720BWholeWrong : ChangeSpec := { name := "lawS6720BWhole", fn := fun _ => fun
  | [d1, d2] => { results := [.lit (.bool false)], args := [d1, d2] }
  | _ => none }
def LawS6720BWholeWrongFalsely : Prop := lawS6720BWholeRow.holds Yba.pinned (OpenSpec.ofChange lawS6720BWholeWrong)

end Rows
end Go.Proofs.Ybulkeidm
