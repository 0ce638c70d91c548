/-
  No cell of these rows narrows 'for every input' (looked for: loops, veiled, ifaces, maps, wideKeys, modest, calm, conditions, laid).
  DERIVED. THE GIVEN ROWS OF THIS SEAT. 2 by the template 'for every input the law returns true; each argument reads behind the call as it read before'; 0 by the template 'total and deterministic' (their statements: YbulkahwiTotals.lean).
  GIVEN WITH THE SEED: the statements are not yours to turn. If you find one false, say at which input.
  Laid BY PROGRAM, IN A SANDBOX (cutbox-rows.mjs): the forced cells as the released guide's own fill.sh prints them over the translation 646941b0d0bc221a… (all of the seat's roots in one cut). By AI agents, Wed Nov 11 2026. No macro, syntax, notation, axiom, sorry.
-/
import Derived.Test.YbulkahwiChecked
import GoSem.Claim
import GoSem.ClaimJoined
import GoSem.ClaimMapViews
import Derived.JoinedTies
import Derived.KernelRfl
namespace Go.Proofs.Ybulkahwi
/- THE CELL 'sum', in the pinned program and in every row, IS THE sha256 OF THE DUMP (.gsa) THAT YbulkahwiProg.lean LOADS. Nothing in Lean hashes anything: it is a label: what it is worth is what the hold of that sum in a sandbox is worth. -/
noncomputable def Yba.pinned : Pinned := { name := "ybulkahwi", sum := "646941b0d0bc221ae4654be6d97c1aafe869004980643a0c60a45e938b4945a3", checked := Yba.checked }
namespace Rows
def none {H : Type} : Left H := { results := [], args := [] }

/-- 'shallowest.LawS1685AModel': WHATEVER THE INPUT: true; the input reads as it did. -/
def lawS1685AModelSpec : ChangeSpec := { name := "lawS1685AModel", fn := fun _ => fun
  | [d1, d2] => { results := [.lit (.bool true)], args := [d1, d2] }
  | _ => none }
def lawS1685AModelRow : OpenClaim := { program := "ybulkahwi", sum := "646941b0d0bc221ae4654be6d97c1aafe869004980643a0c60a45e938b4945a3", func := "example.com/shallowest/shallowest.LawS1685AModel", spec := "lawS1685AModel", apart := false }
def LawS1685AModelSaid : Prop := lawS1685AModelRow.holds Yba.pinned (OpenSpec.ofChange lawS1685AModelSpec)

/-- ITS FALSE NEIGHBOUR: 'it returns false'. Refute it at one input. -/
def lawS1685AModelWrong : ChangeSpec := { name := "lawS1685AModel", fn := fun _ => fun
  | [d1, d2] => { results := [.lit (.bool false)], args := [d1, d2] }
  | _ => none }
def LawS1685AModelWrongFalsely : Prop := lawS1685AModelRow.holds Yba.pinned (OpenSpec.ofChange lawS1685AModelWrong)

/-- 'shallowest.LawS1685AAddSelf': WHATEVER THE INPUT: true; the input reads as it did. -/
def lawS1685AAddSelfSpec : ChangeSpec := { name := "lawS1685AAddSelf", fn := fun _ => fun
  | [d1, d2] => { results := [.lit (.bool true)], args := [d1, d2] }
  | _ => none }
def lawS1685AAddSelfRow : OpenClaim := { program := "ybulkahwi", sum := "646941b0d0bc221ae4654be6d97c1aafe869004980643a0c60a45e938b4945a3", func := "example.com/shallowest/shallowest.LawS1685AAddSelf", spec := "lawS1685AAddSelf", apart := false }
def LawS1685AAddSelfSaid : Prop := lawS1685AAddSelfRow.holds Yba.pinned (OpenSpec.ofChange lawS1685AAddSelfSpec)

/-- ITS FALSE NEIGHBOUR: 'it returns false'. Refute it at one input. -/
def lawS1685AAddSelfWrong : ChangeSpec := { name := "lawS1685AAddSelf", fn := fun _ => fun
  | [d1, d2] => { results := [.lit (.bool false)], args := [d1, d2] }
  | _ => none }
def LawS1685AAddSelfWrongFalsely : Prop := lawS1685AAddSelfRow.holds Yba.pinned (OpenSpec.ofChange lawS1685AAddSelfWrong)

end Rows
end Go.Proofs.Ybulkahwi
