/-
  THE WALKS of 'Weight' and of a room's 'take', 'give', 'fits'.
-/
import Derived.Test.YbulkaibeOne
import Derived.Deep.RegionWith
import Derived.Deep.RegionHeld3
import Derived.Deep.RegionLaw
import Derived.Deep.QuietTactic
import Derived.BigQuiet
import Derived.WalkSmall
import Derived.Deep.Onto
namespace Go.Proofs.Ybulkaibe
open Go.RowKit Go.WideMaps Go.Maps Kit
open Go.ChangeMaps (setBlock heap_setBlock_other)

set_option maxHeartbeats 400000 in
theorem weight_any (c pb wb : Nat) (wt : Int) (w : World) (h6 : w.cell? ⟨pb, 6, none⟩ = some (.map (some wb))) (hw : w.heap[wb]? = some (oneMap wt)) :
    Calls Yba.prog 20 #[ptr c, ptr pb, .string cap] w fun e w' => e = .returned (.int .i64 wt) ∧ w' = w := by
  have hlk := look_one_ok hw Yba.underlying41
  go_enter Yba.func20, Yba.ntmps20
  go_wp2
  go_ret
  exact ⟨rfl, rfl⟩

theorem sb_same {w : World} {b : Nat} (h : b < w.heap.size) (o : Obj) : (setBlock w b o).heap[b]? = some o := by simp [setBlock, h]
theorem sb_other {w : World} {b k : Nat} (o : Obj) (h : k ≠ b) : (setBlock w b o).heap[k]? = w.heap[k]? := by
  show (w.heap.setIfInBounds b o)[k]? = _
  rw [Array.getElem?_setIfInBounds_ne (by omega)]
theorem sb_size (w : World) (b : Nat) (o : Obj) : (setBlock w b o).heap.size = w.heap.size := by simp [setBlock]
theorem Kit.Upd.of_sb (w : World) {B : Nat} {T : List Nat} (b : Nat) (o : Obj) (h : b ∈ T ∨ B ≤ b) : Upd B T w (setBlock w b o) :=
  ⟨rfl, rfl, rfl, by rw [sb_size]; exact Nat.le_refl _, fun k hk ht => sb_other _ (fun e => by
    rcases h with h | h
    · exact ht (e ▸ h)
    · omega)⟩
theorem Kit.Upd.drew {B : Nat} {T : List Nat} {w w' : World} (h : Upd B T w w') : Upd B T w w'.drew := ⟨h.os, h.tape, h.output, h.size, h.block⟩
theorem wrap_mid {n : Int} (h0 : -1000000000 ≤ n) (h1 : n ≤ 1000000000) : IntKind.i64.wrap n = n := by
  unfold IntKind.wrap
  simp [IntKind.bits, IntKind.signed]
  omega
theorem blk_lt {w : World} {b : Nat} {o : Obj} (h : w.heap[b]? = some o) : b < w.heap.size := (Array.getElem?_eq_some_iff.1 h).1

set_option maxRecDepth 20000 in
set_option maxHeartbeats 1000000 in
theorem take_any (c pb wb rb : Nat) (v wt : Int) (w : World) (h6 : w.cell? ⟨pb, 6, none⟩ = some (.map (some wb))) (hw : w.heap[wb]? = some (oneMap wt)) (hr : w.heap[rb]? = some (oneMap v)) (hne : wb ≠ rb) (hv : -100000 ≤ v ∧ v ≤ 100000) (hwt : 0 ≤ wt ∧ wt ≤ 4) :
    Calls Yba.prog 12 #[.map (some rb), ptr c, ptr pb] w fun e w' => e = .returned (.tuple #[]) ∧ w'.heap[rb]? = some (oneMap (v - wt)) ∧ Upd w.heap.size [rb] w w' := by
  have hrg := range_one hr Yba.underlying78
  obtain ⟨hv0, hv1⟩ := hv
  obtain ⟨hw0, hw1⟩ := hwt
  have l6 := cell_lt h6
  have lw := blk_lt hw
  have lr := blk_lt hr
  go_enter Yba.func12, Yba.ntmps12
  go_wp2
  obtain ⟨w1, hw1e⟩ : ∃ w1, w1 = w.alloc (.mapIter (some rb) 1 #[] 1) := ⟨_, rfl⟩
  obtain ⟨ri, hri⟩ : ∃ ri, ri = w.heap.size := ⟨_, rfl⟩
  rw [← hw1e, ← hri]
  have b1 : w1.heap[rb]? = some (oneMap v) := by rw [hw1e, blk_old _ _ lr]; exact hr
  have b2 : w1.heap[ri]? = some (.mapIter (some rb) 1 #[] 1) := by rw [hw1e, hri]; exact blk_new _ _
  have b3 : w1.heap[wb]? = some (oneMap wt) := by rw [hw1e, blk_old _ _ lw]; exact hw
  have b4 : w1.cell? ⟨pb, 6, none⟩ = some (.map (some wb)) := by rw [World.cell?_of_block (w := w) (by rw [hw1e]; exact blk_old _ _ l6)]; exact h6
  have U1 : Upd w.heap.size [rb] w w1 := by rw [hw1e]; exact Upd.of_alloc _ (Nat.le_refl _)
  have hn1 := next_first b1 b2
  have e1 : (setBlock w1 ri (.mapIter (some rb) 1 #[0] 1)).heap[rb]? = some (oneMap v) := by rw [sb_other _ (by omega)]; exact b1
  have e2 : (setBlock w1 ri (.mapIter (some rb) 1 #[0] 1)).heap[ri]? = some (.mapIter (some rb) 1 #[0] 1) := sb_same (blk_lt b2) _
  have e3 : (setBlock w1 ri (.mapIter (some rb) 1 #[0] 1)).heap[wb]? = some (oneMap wt) := by rw [sb_other _ (by omega)]; exact b3
  have e4 : (setBlock w1 ri (.mapIter (some rb) 1 #[0] 1)).cell? ⟨pb, 6, none⟩ = some (.map (some wb)) := by rw [World.cell?_of_block (w := w1) (sb_other _ (by simp only; omega))]; exact b4
  have U2 : Upd w.heap.size [rb] w (setBlock w1 ri (.mapIter (some rb) 1 #[0] 1)) := U1.trans (Upd.of_sb _ _ _ (.inr (by omega)))
  have HU := hide (And.intro U2 (And.intro lr (And.intro hri hne)))
  clear U1 U2 hw1e b3 b4 hrg hw h6 hr l6 lw lr hri
  refine wp_loop_rounds 2 ?_
  rw [rounds_succ]
  have hen := entry_one e1 e2
  generalize setBlock w1 ri (.mapIter (some rb) 1 #[0] 1) = w2 at hn1 e1 e2 e3 e4 hen HU
  go_wp2
  clear hn1 hen b1 b2
  have hlk : (Instr.lookup 78 (.map (some rb)) (.string cap) false).run Yba.prog w2.drew = .ok (.int .i64 v) w2.drew := look_one (w := w2.drew) e1 Yba.underlying78
  have hpt : (Instr.mapUpdate 78 (.map (some rb)) (.string cap) (.int .i64 (v - wt))).run Yba.prog w2.drew = .ok () (setBlock w2.drew rb (oneMap (v - wt))) := put_one (w := w2.drew) e1 Yba.underlying78 _
  have hwr : IntKind.i64.wrap (v - wt) = v - wt := wrap_mid (by omega) (by omega)
  go_region_with (go_at_call 20; refine (weight_any c pb wb wt w2.drew e4 e3).mono ?_; rintro e w' ⟨rfl, hw⟩; rw [hw]; clear hw w')
  all_goals
    clear hlk hpt hwr
    obtain ⟨U2, lr, hri, hne⟩ := unhide HU
    have f1 : (setBlock w2.drew rb (oneMap (v - wt))).heap[rb]? = some (oneMap (v - wt)) := sb_same (by have := blk_lt e1; exact this) _
    have f2 : (setBlock w2.drew rb (oneMap (v - wt))).heap[ri]? = some (.mapIter (some rb) 1 #[0] 1) := by rw [sb_other _ (by omega)]; exact e2
    have U3 : Upd w.heap.size [rb] w (setBlock w2.drew rb (oneMap (v - wt))) := U2.drew.trans (Upd.of_sb _ _ _ (.inl (by simp)))
    have hn2 := next_last f1 f2
    have HF := hide (And.intro f1 U3)
    clear f1 f2 U3 U2 lr hri e1 e2 e3 e4 HU
    generalize setBlock w2.drew rb (oneMap (v - wt)) = w3 at hn2 HF ⊢
    go_wp2
    rw [rounds_succ]
    go_wp2
    go_end0
    exact ⟨rfl, unhide HF⟩

set_option maxRecDepth 20000 in
set_option maxHeartbeats 1000000 in
theorem give_any (c pb wb rb : Nat) (v wt : Int) (w : World) (h6 : w.cell? ⟨pb, 6, none⟩ = some (.map (some wb))) (hw : w.heap[wb]? = some (oneMap wt)) (hr : w.heap[rb]? = some (oneMap v)) (hne : wb ≠ rb) (hv : -100000 ≤ v ∧ v ≤ 100000) (hwt : 0 ≤ wt ∧ wt ≤ 4) :
    Calls Yba.prog 31 #[.map (some rb), ptr c, ptr pb] w fun e w' => e = .returned (.tuple #[]) ∧ w'.heap[rb]? = some (oneMap (v + wt)) ∧ Upd w.heap.size [rb] w w' := by
  have hrg := range_one hr Yba.underlying78
  obtain ⟨hv0, hv1⟩ := hv
  obtain ⟨hw0, hw1⟩ := hwt
  have l6 := cell_lt h6
  have lw := blk_lt hw
  have lr := blk_lt hr
  go_enter Yba.func31, Yba.ntmps31
  go_wp2
  obtain ⟨w1, hw1e⟩ : ∃ w1, w1 = w.alloc (.mapIter (some rb) 1 #[] 1) := ⟨_, rfl⟩
  obtain ⟨ri, hri⟩ : ∃ ri, ri = w.heap.size := ⟨_, rfl⟩
  rw [← hw1e, ← hri]
  have b1 : w1.heap[rb]? = some (oneMap v) := by rw [hw1e, blk_old _ _ lr]; exact hr
  have b2 : w1.heap[ri]? = some (.mapIter (some rb) 1 #[] 1) := by rw [hw1e, hri]; exact blk_new _ _
  have b3 : w1.heap[wb]? = some (oneMap wt) := by rw [hw1e, blk_old _ _ lw]; exact hw
  have b4 : w1.cell? ⟨pb, 6, none⟩ = some (.map (some wb)) := by rw [World.cell?_of_block (w := w) (by rw [hw1e]; exact blk_old _ _ l6)]; exact h6
  have U1 : Upd w.heap.size [rb] w w1 := by rw [hw1e]; exact Upd.of_alloc _ (Nat.le_refl _)
  have hn1 := next_first b1 b2
  have e1 : (setBlock w1 ri (.mapIter (some rb) 1 #[0] 1)).heap[rb]? = some (oneMap v) := by rw [sb_other _ (by omega)]; exact b1
  have e2 : (setBlock w1 ri (.mapIter (some rb) 1 #[0] 1)).heap[ri]? = some (.mapIter (some rb) 1 #[0] 1) := sb_same (blk_lt b2) _
  have e3 : (setBlock w1 ri (.mapIter (some rb) 1 #[0] 1)).heap[wb]? = some (oneMap wt) := by rw [sb_other _ (by omega)]; exact b3
  have e4 : (setBlock w1 ri (.mapIter (some rb) 1 #[0] 1)).cell? ⟨pb, 6, none⟩ = some (.map (some wb)) := by rw [World.cell?_of_block (w := w1) (sb_other _ (by simp only; omega))]; exact b4
  have U2 : Upd w.heap.size [rb] w (setBlock w1 ri (.mapIter (some rb) 1 #[0] 1)) := U1.trans (Upd.of_sb _ _ _ (.inr (by omega)))
  have HU := hide (And.intro U2 (And.intro lr (And.intro hri hne)))
  clear U1 U2 hw1e b3 b4 hrg hw h6 hr l6 lw lr hri
  refine wp_loop_rounds 2 ?_
  rw [rounds_succ]
  have hen := entry_one e1 e2
  generalize setBlock w1 ri (.mapIter (some rb) 1 #[0] 1) = w2 at hn1 e1 e2 e3 e4 hen HU
  go_wp2
  clear hn1 hen b1 b2
  have hlk : (Instr.lookup 78 (.map (some rb)) (.string cap) false).run Yba.prog w2.drew = .ok (.int .i64 v) w2.drew := look_one (w := w2.drew) e1 Yba.underlying78
  have hpt : (Instr.mapUpdate 78 (.map (some rb)) (.string cap) (.int .i64 (v + wt))).run Yba.prog w2.drew = .ok () (setBlock w2.drew rb (oneMap (v + wt))) := put_one (w := w2.drew) e1 Yba.underlying78 _
  have hwr : IntKind.i64.wrap (v + wt) = v + wt := wrap_mid (by omega) (by omega)
  go_region_with (go_at_call 20; refine (weight_any c pb wb wt w2.drew e4 e3).mono ?_; rintro e w' ⟨rfl, hw⟩; rw [hw]; clear hw w')
  all_goals
    clear hlk hpt hwr
    obtain ⟨U2, lr, hri, hne⟩ := unhide HU
    have f1 : (setBlock w2.drew rb (oneMap (v + wt))).heap[rb]? = some (oneMap (v + wt)) := sb_same (by have := blk_lt e1; exact this) _
    have f2 : (setBlock w2.drew rb (oneMap (v + wt))).heap[ri]? = some (.mapIter (some rb) 1 #[0] 1) := by rw [sb_other _ (by omega)]; exact e2
    have U3 : Upd w.heap.size [rb] w (setBlock w2.drew rb (oneMap (v + wt))) := U2.drew.trans (Upd.of_sb _ _ _ (.inl (by simp)))
    have hn2 := next_last f1 f2
    have HF := hide (And.intro f1 U3)
    clear f1 f2 U3 U2 lr hri e1 e2 e3 e4 HU
    generalize setBlock w2.drew rb (oneMap (v + wt)) = w3 at hn2 HF ⊢
    go_wp2
    rw [rounds_succ]
    go_wp2
    go_end0
    exact ⟨rfl, unhide HF⟩

set_option maxRecDepth 20000 in
set_option maxHeartbeats 1000000 in
theorem fits_any (c pb wb rb gb cg : Nat) (v wt : Int) (w : World) (h6 : w.cell? ⟨pb, 6, none⟩ = some (.map (some wb))) (hw : w.heap[wb]? = some (oneMap wt)) (hr : w.heap[rb]? = some (oneMap v)) (hg : w.cell? ⟨gb, 0, none⟩ = some (ptr pb)) (hv : -100000 ≤ v ∧ v ≤ 100000) (hwt : 0 ≤ wt ∧ wt ≤ 4) :
    Calls Yba.prog 21 #[.map (some rb), ptr c, .slice (some ⟨gb, 0, none⟩) 1 cg] w fun e w' => e = .returned (.bool (decide (0 ≤ v - wt))) ∧ Below w.heap.size w w' := by
  have hrg := range_one hr Yba.underlying78
  obtain ⟨hv0, hv1⟩ := hv
  obtain ⟨hw0, hw1⟩ := hwt
  have l6 := cell_lt h6
  have lw := blk_lt hw
  have lr := blk_lt hr
  have lg := cell_lt hg
  go_enter Yba.func21, Yba.ntmps21
  go_wp2
  obtain ⟨w1, hw1e⟩ : ∃ w1, w1 = w.alloc (.mapIter (some rb) 1 #[] 1) := ⟨_, rfl⟩
  obtain ⟨ri, hri⟩ : ∃ ri, ri = w.heap.size := ⟨_, rfl⟩
  rw [← hw1e, ← hri]
  have b1 : w1.heap[rb]? = some (oneMap v) := by rw [hw1e, blk_old _ _ lr]; exact hr
  have b2 : w1.heap[ri]? = some (.mapIter (some rb) 1 #[] 1) := by rw [hw1e, hri]; exact blk_new _ _
  have U1 : Upd w.heap.size [] w w1 := by rw [hw1e]; exact Upd.of_alloc _ (Nat.le_refl _)
  have hn1 := next_first b1 b2
  have U2 : Upd w.heap.size [] w (setBlock w1 ri (.mapIter (some rb) 1 #[0] 1)) := U1.trans (Upd.of_sb _ _ _ (.inr (by omega)))
  have e1 : (setBlock w1 ri (.mapIter (some rb) 1 #[0] 1)).heap[rb]? = some (oneMap v) := (U2.block rb lr (by simp)).trans hr
  have e2 : (setBlock w1 ri (.mapIter (some rb) 1 #[0] 1)).heap[ri]? = some (.mapIter (some rb) 1 #[0] 1) := sb_same (blk_lt b2) _
  have e3 : (setBlock w1 ri (.mapIter (some rb) 1 #[0] 1)).heap[wb]? = some (oneMap wt) := (U2.block wb lw (by simp)).trans hw
  have e4 : (setBlock w1 ri (.mapIter (some rb) 1 #[0] 1)).cell? ⟨pb, 6, none⟩ = some (.map (some wb)) := (U2.cell (p := ⟨pb, 6, none⟩) l6 (by simp)).trans h6
  have e5 : (setBlock w1 ri (.mapIter (some rb) 1 #[0] 1)).cell? ⟨gb, 0, none⟩ = some (ptr pb) := (U2.cell (p := ⟨gb, 0, none⟩) lg (by simp)).trans hg
  have HU := hide U2
  clear U1 U2 hw1e hrg hw h6 hr hg l6 lw lr lg hri
  refine wp_loop_rounds 2 ?_
  rw [rounds_succ]
  have hen := entry_one e1 e2
  have hn2 := next_last e1 e2
  generalize setBlock w1 ri (.mapIter (some rb) 1 #[0] 1) = w2 at hn1 hn2 e1 e2 e3 e4 e5 hen HU
  go_wp2
  clear hn1 hen b1 b2
  refine wp_loop_rounds 2 ?_
  rw [rounds_succ]
  go_wp2_with (go_at_call 20; refine (weight_any c pb wb wt w2 e4 e3).mono ?_; rintro e w' ⟨rfl, hw⟩; rw [hw]; clear hw w')
  rw [rounds_succ]
  by_cases hneg : v - wt < 0
  · go_wp2
    go_ret
    exact ⟨by rw [decide_eq_false (show ¬ 0 ≤ v - wt by omega)]; rfl, (unhide HU).below⟩
  · go_wp2
    rw [rounds_succ]
    go_wp2
    go_ret
    exact ⟨by rw [decide_eq_true (show 0 ≤ v - wt by omega)]; rfl, (unhide HU).below⟩

end Go.Proofs.Ybulkaibe
