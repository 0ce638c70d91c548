/-
  No cell of these rows narrows 'for every input' (looked for: loops, veiled, ifaces, maps, wideKeys, modest, calm, conditions, laid).
  DERIVED. THE GIVEN ROWS OF THIS SEAT. 2 by the template 'for every input the law returns true; each argument reads behind the call as it read before'; 0 by the template 'total and deterministic' (their statements: YbulkahtqTotals.lean).
  GIVEN WITH THE SEED: the statements are not yours to turn. If you find one false, say at which input.
  Laid BY PROGRAM, IN A SANDBOX (cutbox-rows.mjs): the forced cells as the released guide's own fill.sh prints them over the translation a59af68570a827a3… (all of the seat's roots in one cut). By AI agents, Wed Nov 11 2026. No macro, syntax, notation, axiom, sorry.
-/
import Derived.Test.YbulkahtqChecked
import GoSem.Claim
import GoSem.ClaimJoined
import GoSem.ClaimMapViews
import Derived.JoinedTies
import Derived.KernelRfl
namespace Go.Proofs.Ybulkahtq
/- THE CELL 'sum', in the pinned program and in every row, IS THE sha256 OF THE DUMP (.gsa) THAT YbulkahtqProg.lean LOADS. Nothing in Lean hashes anything: it is a label: what it is worth is what the hold of that sum in a sandbox is worth. -/
noncomputable def Yba.pinned : Pinned := { name := "ybulkahtq", sum := "a59af68570a827a3751149707392f757d65ba354e4d09716b0fda73c2eed6fe4", checked := Yba.checked }
namespace Rows
def none {H : Type} : Left H := { results := [], args := [] }

/-- 'benchkit.LawS1680AEach': WHATEVER THE INPUT: true; the input reads as it did. -/
def lawS1680AEachSpec : ChangeSpec := { name := "lawS1680AEach", fn := fun _ => fun
  | [d] => { results := [.lit (.bool true)], args := [d] }
  | _ => none }
def lawS1680AEachRow : OpenClaim := { program := "ybulkahtq", sum := "a59af68570a827a3751149707392f757d65ba354e4d09716b0fda73c2eed6fe4", func := "example.com/knotwise/knotwise/internal/benchkit.LawS1680AEach", spec := "lawS1680AEach", apart := false }
def LawS1680AEachSaid : Prop := lawS1680AEachRow.holds Yba.pinned (OpenSpec.ofChange lawS1680AEachSpec)

/-- ITS FALSE NEIGHBOUR: 'it returns false'. Refute it at one input. -/
def lawS1680AEachWrong : ChangeSpec := { name := "lawS1680AEach", fn := fun _ => fun
  | [d] => { results := [.lit (.bool false)], args := [d] }
  | _ => none }
def LawS1680AEachWrongFalsely : Prop := lawS1680AEachRow.holds Yba.pinned (OpenSpec.ofChange lawS1680AEachWrong)

/-- 'benchkit.LawS1680ASign': WHATEVER THE INPUT: true; the input reads as it did. -/
def lawS1680ASignSpec : ChangeSpec := { name := "lawS1680ASign", fn := fun _ => fun
  | [d] => { results := [.lit (.bool true)], args := [d] }
  | _ => none }
def lawS1680ASignRow : OpenClaim := { program := "ybulkahtq", sum := "a59af68570a827a3751149707392f757d65ba354e4d09716b0fda73c2eed6fe4", func := "example.com/knotwise/knotwise/internal/benchkit.LawS1680ASign", spec := "lawS1680ASign", apart := false }
def LawS1680ASignSaid : Prop := lawS1680ASignRow.holds Yba.pinned (OpenSpec.ofChange lawS1680ASignSpec)

/-- ITS FALSE NEIGHBOUR: 'it returns false'. Refute it at one input. -/
def lawS1680ASignWrong : ChangeSpec := { name := "lawS1680ASign", fn := fun _ => fun
  | [d] => { results := [.lit (.bool false)], args := [d] }
  | _ => none }
def LawS1680ASignWrongFalsely : Prop := lawS1680ASignRow.holds Yba.pinned (OpenSpec.ofChange lawS1680ASignWrong)

end Rows
end Go.Proofs.Ybulkahtq
