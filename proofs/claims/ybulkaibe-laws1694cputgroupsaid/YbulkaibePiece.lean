/-
  THE STATEMENTS of LawS1694CPutGroup, one by one.
-/
import Derived.Test.YbulkaibeProg
import Derived.WalkKit
namespace Go.Proofs.Ybulkaibe

/-- The code from the n-th statement on; its head. -/
def restC : Nat → Code → Code
  | 0, c => c
  | n + 1, .seq _ b => restC n b
  | _ + 1, c => c
def headC : Code → Code
  | .seq a _ => a
  | c => c
noncomputable def stm (n : Nat) : Code := headC (restC n (Yba.f3.body.getD .skip))

end Go.Proofs.Ybulkaibe
