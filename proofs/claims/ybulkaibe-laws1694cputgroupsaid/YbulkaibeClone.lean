/-
  THE WALKS of maps.Clone.
-/
import Derived.Test.YbulkaibeSel
import Derived.Shelf.SlMaps.Clone
namespace Go.Proofs.Ybulkaibe
open Go.RowKit Go.WideMaps Go.Maps Kit
open Go.ChangeMaps (setBlock heap_setBlock_other)

set_option maxRecDepth 20000 in
set_option maxHeartbeats 1000000 in
theorem clone29 (rb : Nat) (v : Int) (w : World) (h : w.heap[rb]? = some (oneMap v)) :
    Calls Yba.prog 29 #[.map (some rb)] w fun e w' => e = .returned (.map (some w.heap.size)) ∧ w' = w.alloc (oneMap v) := by
  have hq := fun w => run_eql_map_nil_sl (P := Yba.prog) w 78 _ _ (some rb) Yba.underlying78
  go_enter Yba.func29, Yba.ntmps29
  go_wp2
  rw [run_callFunc_extern Yba.func17 (by kernel_rfl) (by kernel_rfl) (by kernel_rfl) (e := Extern.MapsClone.clone) (by kernel_rfl), run_maps_clone_sl w 78 h]
  simp only [Result.andThen]
  rw [Oper.upon_value]
  go_wp2
  rw [run_typeAssert_map_sl _ 78 20 _ _ _ Yba.underlying78]
  simp only [Result.andThen]
  rw [Oper.upon_value]
  go_wp2
  go_ret
  exact ⟨rfl, rfl⟩

set_option maxRecDepth 20000 in
set_option maxHeartbeats 1000000 in
theorem clone10 (rb : Nat) (v : Int) (w : World) (h : w.heap[rb]? = some (oneMap v)) :
    Calls Yba.prog 10 #[.map (some rb)] w fun e w' => e = .returned (.map (some w.heap.size)) ∧ w' = w.alloc (oneMap v) := by
  have hq := fun w => run_eql_map_nil_sl (P := Yba.prog) w 41 _ _ (some rb) Yba.underlying41
  go_enter Yba.func10, Yba.ntmps10
  go_wp2
  rw [run_callFunc_extern Yba.func17 (by kernel_rfl) (by kernel_rfl) (by kernel_rfl) (e := Extern.MapsClone.clone) (by kernel_rfl), run_maps_clone_sl w 41 h]
  simp only [Result.andThen]
  rw [Oper.upon_value]
  go_wp2
  rw [run_typeAssert_map_sl _ 41 20 _ _ _ Yba.underlying41]
  simp only [Result.andThen]
  rw [Oper.upon_value]
  go_wp2
  go_ret
  exact ⟨rfl, rfl⟩

end Go.Proofs.Ybulkaibe
