/-
  THE WALKS of cmp.Or and 'rank'.
-/
import Derived.Test.YbulkaibeSmall
namespace Go.Proofs.Ybulkaibe
open Go.RowKit Go.WideMaps Go.Maps Kit
open Go.ChangeMaps (setBlock heap_setBlock_other)

def orZ (x y : Int) : Int := if x = 0 then y else x

set_option maxHeartbeats 400000 in
theorem or_any (b c : Nat) (x y : Int) (w : World) (h0 : w.cell? ⟨b, 0, none⟩ = some (.int .i64 x)) (h1 : w.cell? ⟨b, 1, none⟩ = some (.int .i64 y)) :
    Calls Yba.prog 38 #[.slice (some ⟨b, 0, none⟩) 2 c] w fun e w' => e = .returned (.int .i64 (orZ x y)) ∧ w' = w := by
  by_cases hx : x = 0
  · subst hx
    by_cases hy : y = 0
    · subst hy
      go_enter Yba.func38, Yba.ntmps38
      go_wp2
      refine wp_loop_rounds 3 ?_
      rw [rounds_succ]
      go_wp2
      rw [rounds_succ]
      go_wp2
      rw [rounds_succ]
      go_wp2
      go_ret
      exact ⟨rfl, rfl⟩
    · have hy' : (y == 0) = false := by simpa using hy
      go_enter Yba.func38, Yba.ntmps38
      go_wp2
      refine wp_loop_rounds 3 ?_
      rw [rounds_succ]
      go_wp2
      rw [rounds_succ]
      go_wp2
      go_ret
      exact ⟨by simp [orZ], rfl⟩
  · have hx' : (x == 0) = false := by simpa using hx
    go_enter Yba.func38, Yba.ntmps38
    go_wp2
    refine wp_loop_rounds 3 ?_
    rw [rounds_succ]
    go_wp2
    go_ret
    exact ⟨by unfold orZ; rw [if_neg hx]; rfl, rfl⟩

theorem cell_alloc {w : World} (o : Obj) {b i : Nat} {v : Value} (h : w.cell? ⟨b, i, none⟩ = some v) : (w.alloc o).cell? ⟨b, i, none⟩ = some v := by
  rw [World.cell?_of_block (w := w) (blk_old _ _ (cell_lt h))]; exact h
theorem cell_alloc_drew {w : World} (o : Obj) {b i : Nat} {v : Value} (h : w.cell? ⟨b, i, none⟩ = some v) : (w.alloc o).drew.cell? ⟨b, i, none⟩ = some v := cell_alloc o h

def rankZ (i j p q : Nat) : Int := orZ (cmpI (prM p) (prM q)) (cmpI i j)

set_option maxRecDepth 20000 in
set_option maxHeartbeats 2000000 in
theorem rank_any (a b i j p q : Nat) (hi : i < 6) (hj : j < 6) (hp : p < 4) (hq : q < 4) (w : World) (a0 : w.cell? ⟨a, 0, none⟩ = some (.string (pnm i))) (a5 : w.cell? ⟨a, 5, none⟩ = some (.int .i64 p)) (b0 : w.cell? ⟨b, 0, none⟩ = some (.string (pnm j))) (b5 : w.cell? ⟨b, 5, none⟩ = some (.int .i64 q)) :
    Calls Yba.prog 30 #[ptr a, ptr b] w fun e w' => e = .returned (.int .i64 (rankZ i j p q)) ∧ Below w.heap.size w w' := by
  go_enter Yba.func30, Yba.ntmps30
  go_wp2
  have a0d : w.drew.cell? ⟨a, 0, none⟩ = some (.string (pnm i)) := a0
  have a5d : w.drew.cell? ⟨a, 5, none⟩ = some (.int .i64 p) := a5
  have b0d : w.drew.cell? ⟨b, 0, none⟩ = some (.string (pnm j)) := b0
  have b5d : w.drew.cell? ⟨b, 5, none⟩ = some (.int .i64 q) := b5
  have n0 : (w.alloc (.cells #[.int .i64 (cmpI (prM p) (prM q)), .int .i64 (cmpI i j)] 3)).drew.cell? ⟨w.heap.size, 0, none⟩ = some (.int .i64 (cmpI (prM p) (prM q))) := cell_of_blk (blk_new w _) (i := 0) rfl
  have n1 : (w.alloc (.cells #[.int .i64 (cmpI (prM p) (prM q)), .int .i64 (cmpI i j)] 3)).drew.cell? ⟨w.heap.size, 1, none⟩ = some (.int .i64 (cmpI i j)) := cell_of_blk (blk_new w _) (i := 1) rfl
  go_region_held3 (fun W => W.cell? ⟨a, 0, none⟩ = some (.string (pnm i)) ∧ W.cell? ⟨a, 5, none⟩ = some (.int .i64 p) ∧ W.cell? ⟨b, 0, none⟩ = some (.string (pnm j)) ∧ W.cell? ⟨b, 5, none⟩ = some (.int .i64 q)) (with_reducible first | exact ⟨by assumption, by assumption, by assumption, by assumption⟩ | exact ⟨cell_alloc_drew _ (by assumption), cell_alloc_drew _ (by assumption), cell_alloc_drew _ (by assumption), cell_alloc_drew _ (by assumption)⟩) (first
    | (go_at_call 23; refine (priority_any _ _ _ (by assumption) (by assumption)).mono ?_; rintro e w' ⟨rfl, hw⟩; rw [hw]; clear hw w')
    | (go_at_call 39; refine (compare_int _ _ _).mono ?_; rintro e w' ⟨rfl, hw⟩; rw [hw]; clear hw w')
    | (go_at_call 40; refine (compare_str _ _ (by assumption) (by assumption) _).mono ?_; rintro e w' ⟨rfl, hw⟩; rw [hw]; clear hw w')
    | (go_at_call 38; refine (or_any w.heap.size 2 _ _ _ n0 n1).mono ?_; rintro e w' ⟨rfl, hw⟩; rw [hw]; clear hw w'))
  go_wp2
  go_ret
  exact ⟨rfl, ((Below.refl _ _).alloc (Nat.le_refl _) _).drew⟩

end Go.Proofs.Ybulkaibe
