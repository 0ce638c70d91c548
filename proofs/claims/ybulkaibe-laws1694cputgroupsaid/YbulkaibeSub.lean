/-
  THE STATEMENTS of the sixth loop's body.
-/
import Derived.Test.YbulkaibeMod
namespace Go.Proofs.Ybulkaibe
open Go.RowKit Go.WideMaps Go.Maps Kit

def elseC : Code → Code
  | .cond _ _ b => b
  | c => c
def tailC : Code → Code
  | .seq _ b => b
  | c => c
def blkC : Code → Code
  | .block _ c => c
  | c => c
def loopC : Code → Code
  | .loop c => c
  | c => c
/-- The body of the sixth loop, and its n-th statement. -/
noncomputable def b11 : Code := blkC (headC (tailC (tailC (loopC (blkC (tailC (elseC (tailC (stm 26)))))))))
noncomputable def sub (n : Nat) : Code := headC (restC n b11)

theorem Yba.info3 : (Yba.prog.info? 3).map (fun i => (i.zero, i.size, i.bytes)) = some (some (.int .i64 0), 1, 8) := by kernel_rfl
abbrev intV (q : Nat) : Value := .int .i64 (q : Nat)

/-- The candidates so far. -/
structure Cn (B : Nat) (W : World) (cs : List Nat) (v : Value) (wx : World) : Prop where
  row : wx.ownsRow B 3 1 v cs.length (cs.map intV)
  bel : Below B W wx
  ge : B ≤ wx.heap.size

theorem Cn.push {B : Nat} {W wx w2 : World} {cs : List Nat} {v v2 : Value} {q : Nat} {o : Obj} (h : Cn B W cs v wx) (hown : w2.ownsRow B 3 1 v2 (cs.length + 1) (cs.map intV ++ [intV q])) (hg : (wx.alloc o).grownBy w2 v.ownBlock) : Cn B W (cs ++ [q]) v2 w2 := by
  have hz := hg.size
  simp only [World.size_alloc] at hz
  have := h.ge
  refine ⟨?_, h.bel.trans ⟨hg.os, hg.tape, hg.output, by omega, fun k hk => (hg.block k (by simp; omega) (fun e => by have := (h.row.lt k e.symm).1; omega)).trans (blk_old _ _ (by omega))⟩, by omega⟩
  rw [List.length_append, List.map_append]; exact hown
theorem Cn.drew {B : Nat} {W wx : World} {cs : List Nat} {v : Value} (h : Cn B W cs v wx) (n : Nat) : Cn B W cs v (wx.drewN n) :=
  ⟨own_of_block h.row (fun _ _ => rfl), below_drewN h.bel _, h.ge⟩
theorem zz_iff {p q : Nat} (hp : p < 4) (hq : q < 4) : prM p < prM q ↔ (if p = 0 then (1000 : Int) else p) < (if q = 0 then (1000 : Int) else q) := by
  unfold prM
  by_cases h1 : p = 0 <;> by_cases h2 : q = 0 <;> simp only [h1, h2, if_true, if_false] <;> omega

end Go.Proofs.Ybulkaibe
