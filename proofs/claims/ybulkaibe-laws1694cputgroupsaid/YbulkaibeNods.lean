/-
  THE NODES, once the law has laid all three.
-/
import Derived.Test.YbulkaibeLast
namespace Go.Proofs.Ybulkaibe
open Go.RowKit Go.WideMaps Go.Maps Kit

theorem Nd.nod {W0 wx : World} {c : Nat} {C : Nat → Nat} (h : Nd W0 c C 3 wx) : ∃ nr cn cb, Nod wx c nr cn cb ∧ (∀ j, j < 3 → wx.heap[cb j]? = some (oneMap (C j)) ∧ W0.heap.size ≤ cb j) ∧ wx.heap[c]? = some (.cells (clCells (.slice (some ⟨nr, 0, none⟩) 3 cn) (.slice none 0 0)) 45 (0, 0)) ∧ W0.heap.size ≤ nr := by
  obtain ⟨a, cn, cb, xs, hc, hrow, hx⟩ := h.ex
  obtain ⟨nr, rfl, hge, _, hcell⟩ := own_at0 hrow (by omega)
  refine ⟨nr, cn, cb, ⟨cell_of_blk hc (i := 10) rfl, fun j hj => ?_⟩, fun j hj => (hx j hj).2, hc, hge⟩
  have cc : ∀ q v, q < 6 → (nodeCells j (cb j))[q]? = some v → wx.cell? ⟨nr, j * 6 + q, none⟩ = some v := fun q v hq hv => hcell _ v (((hx j hj).1 q hq).trans hv)
  exact ⟨cc 0 _ (by omega) rfl, cc 1 _ (by omega) rfl, cc 2 _ (by omega) rfl, cc 3 _ (by omega) rfl, cc 4 _ (by omega) rfl, cc 5 _ (by omega) rfl⟩

end Go.Proofs.Ybulkaibe
