/-
  No cell of these rows narrows 'for every input' (looked for: loops, veiled, ifaces, maps, wideKeys, modest, calm, conditions, laid).
  DERIVED. THE GIVEN ROWS OF THIS SEAT. 1 by the template 'for every input the law returns true; each argument reads behind the call as it read before'; 0 by the template 'total and deterministic' (their statements: YbulkaibeTotals.lean).
  GIVEN WITH THE SEED: the statements are not yours to turn. If you find one false, say at which input.
  Laid BY PROGRAM, IN A SANDBOX (cutbox-rows.mjs): the forced cells as the released guide's own fill.sh prints them over the translation 449b61f0b6a479b3… (all of the seat's roots in one cut). By AI agents, Wed Nov 11 2026. No macro, syntax, notation, axiom, sorry.
-/
import Derived.Test.YbulkaibeChecked
import GoSem.Claim
import GoSem.ClaimJoined
import GoSem.ClaimMapViews
import Derived.JoinedTies
import Derived.KernelRfl
namespace Go.Proofs.Ybulkaibe
/- THE CELL 'sum', in the pinned program and in every row, IS THE sha256 OF THE DUMP (.gsa) THAT YbulkaibeProg.lean LOADS. Nothing in Lean hashes anything: it is a label: what it is worth is what the hold of that sum in a sandbox is worth. -/
noncomputable def Yba.pinned : Pinned := { name := "ybulkaibe", sum := "449b61f0b6a479b31f71d6bd7e2d889634e890ae9d40ff98b5056aa3ca551b25", checked := Yba.checked }
namespace Rows
def none {H : Type} : Left H := { results := [], args := [] }

/-- 'placement.LawS1694CPutGroup': WHATEVER THE INPUT: true; the input reads as it did. -/
def lawS1694CPutGroupSpec : ChangeSpec := { name := "lawS1694CPutGroup", fn := fun _ => fun
  | [d] => { results := [.lit (.bool true)], args := [d] }
  | _ => none }
def lawS1694CPutGroupRow : OpenClaim := { program := "ybulkaibe", sum := "449b61f0b6a479b31f71d6bd7e2d889634e890ae9d40ff98b5056aa3ca551b25", func := "example.com/halyard/halyard/internal/placement.LawS1694CPutGroup", spec := "lawS1694CPutGroup", inPlace := ["maps.clone"], unfollowed := true, recurses := true, apart := false }
def LawS1694CPutGroupSaid : Prop := lawS1694CPutGroupRow.holds Yba.pinned (OpenSpec.ofChange lawS1694CPutGroupSpec)

/-- ITS FALSE NEIGHBOUR: 'it returns false'. Refute it at one input. -/
def lawS1694CPutGroupWrong : ChangeSpec := { name := "lawS1694CPutGroup", fn := fun _ => fun
  | [d] => { results := [.lit (.bool false)], args := [d] }
  | _ => none }
def LawS1694CPutGroupWrongFalsely : Prop := lawS1694CPutGroupRow.holds Yba.pinned (OpenSpec.ofChange lawS1694CPutGroupWrong)

end Rows
end Go.Proofs.Ybulkaibe
