/-
  THE WALKS of 'Node', 'newPlan', and of the law's small functions.
-/
import Derived.Test.YbulkaibeGroup
namespace Go.Proofs.Ybulkaibe
open Go.RowKit Go.WideMaps Go.Maps Kit
open Go.ChangeMaps (setBlock heap_setBlock_other)

/-- The three nodes as they lie. -/
structure Nod (w : World) (c nr cn : Nat) (cb : Nat → Nat) : Prop where
  sl : w.cell? ⟨c, 10, none⟩ = some (.slice (some ⟨nr, 0, none⟩) 3 cn)
  at_ : ∀ j, j < 3 → w.cell? ⟨nr, j * 6, none⟩ = some (.string (nnm j)) ∧ w.cell? ⟨nr, j * 6 + 1, none⟩ = some (.int .u64 0) ∧ w.cell? ⟨nr, j * 6 + 2, none⟩ = some (.int .u64 0) ∧ w.cell? ⟨nr, j * 6 + 3, none⟩ = some (.pointer none) ∧ w.cell? ⟨nr, j * 6 + 4, none⟩ = some (.map (some (cb j))) ∧ w.cell? ⟨nr, j * 6 + 5, none⟩ = some (.int .i64 0)

theorem Nod.below {w w' : World} {c nr cn : Nat} {cb : Nat → Nat} (h : Nod w c nr cn cb) (hB : Below w.heap.size w w') : Nod w' c nr cn cb := by
  have cc : ∀ {b i : Nat} {v : Value}, w.cell? ⟨b, i, none⟩ = some v → w'.cell? ⟨b, i, none⟩ = some v := fun {b i v} hv => by
    rw [hB.cell (p := ⟨b, i, none⟩) (cell_lt hv)]; exact hv
  exact ⟨cc h.sl, fun j hj => by obtain ⟨a0, a1, a2, a3, a4, a5⟩ := h.at_ j hj; exact ⟨cc a0, cc a1, cc a2, cc a3, cc a4, cc a5⟩⟩

set_option maxHeartbeats 400000 in
theorem nodeIs_any (i j : Nat) (hi : i < 3) (hj : j < 3) (sb m : Nat) (w : World) (hs : w.cell? ⟨sb, 0, none⟩ = some (.string (nnm j))) :
    Calls Yba.prog 19 #[.agg #[.string (nnm i), .int .u64 0, .int .u64 0, .pointer none, .map (some m), .int .i64 0], ptr sb] w fun e w' => e = .returned (.bool (decide (i = j))) ∧ Below w.heap.size w w' := by
  have hl := cell_lt hs
  have hss : ((nnm i).toList == (nnm j).toList) = decide (i = j) := by
    have key : ∀ a b : Fin 3, ((nnm a).toList == (nnm b).toList) = decide (a.1 = b.1) := by decide +kernel
    exact key ⟨i, hi⟩ ⟨j, hj⟩
  go_enter Yba.func19, Yba.ntmps19
  go_wp2
  go_ret
  exact ⟨rfl, (Below.refl _ _).alloc (Nat.le_refl _) _⟩

set_option maxRecDepth 20000 in
set_option maxHeartbeats 1000000 in
theorem nodeIndex_any (j : Nat) (hj : j < 3) (c nr cn sb : Nat) (cb : Nat → Nat) (w : World) (h : Nod w c nr cn cb) (hs : w.cell? ⟨sb, 0, none⟩ = some (.string (nnm j))) :
    Calls Yba.prog 18 #[.slice (some ⟨nr, 0, none⟩) 3 cn, .func (.func 19) #[] #[ptr sb]] w fun e w' => e = .returned (.int .i64 j) ∧ Below w.heap.size w w' := by
  go_enter Yba.func18, Yba.ntmps18
  go_wp2
  go_loopw [8] (fun iv wx => ∃ i : Nat, i ≤ j ∧ iv = .int .i64 i ∧ Below w.heap.size w wx) (fun iv _ => j - (intOf iv).toNat)
  case atStart => exact ⟨0, Nat.zero_le _, rfl, Below.refl _ _⟩
  case round =>
    obtain ⟨i, hi, rfl, hbx⟩ := hrel
    have hn := h.below hbx
    have hsx := (hbx.cell (p := ⟨sb, 0, none⟩) (cell_lt hs)).trans hs
    obtain ⟨a0, a1, a2, a3, a4, a5⟩ := hn.at_ i (by omega)
    have hcall := nodeIs_any i j (by omega) hj sb (cb i) wr hsx
    have hi3 : i < 3 := by omega
    have hz := hbx.size
    by_cases hij : i = j
    · rw [decide_eq_true hij] at hcall
      have HIJ := hide hij
      clear hij hn h hs hsx
      go_wp2_with (go_at_call 19; refine hcall.mono ?_; rintro e w2 ⟨rfl, hb2⟩)
      go_ret
      exact ⟨by rw [unhide HIJ]; rfl, hbx.trans (hb2.mono hz)⟩
    · rw [decide_eq_false hij] at hcall
      have hlt : i < j := by omega
      clear hij hn h hs hsx
      go_wp2_with (go_at_call 19; refine hcall.mono ?_; rintro e w2 ⟨rfl, hb2⟩)
      refine ⟨⟨i + 1, by omega, by go_num, hbx.trans (hb2.mono hz)⟩, by simp [intOf]; omega⟩

set_option maxRecDepth 20000 in
set_option maxHeartbeats 1000000 in
theorem node_any (j : Nat) (hj : j < 3) (c nr cn : Nat) (cb : Nat → Nat) (w : World) (h : Nod w c nr cn cb) :
    Calls Yba.prog 11 #[ptr c, .string (nnm j)] w fun e w' => e = .returned (.pointer (some ⟨nr, j * 6, none⟩)) ∧ Below w.heap.size w w' := by
  have hb : Below w.heap.size w (w.alloc (.cells #[.string (nnm j)] 9)) := (Below.refl _ _).alloc (Nat.le_refl _) _
  have hn := h.below hb
  have hidx := nodeIndex_any j hj c nr cn w.heap.size cb (w.alloc (.cells #[.string (nnm j)] 9)) hn (cell_of_blk (blk_new w _) (i := 0) rfl)
  have hsl := hn.sl
  have hlc := cell_lt h.sl
  have hz := hb.size
  have after : ∀ w2, Below (w.alloc (.cells #[.string (nnm j)] 9)).heap.size (w.alloc (.cells #[.string (nnm j)] 9)) w2 → w2.cell? ⟨c, 10, none⟩ = some (.slice (some ⟨nr, 0, none⟩) 3 cn) := fun w2 hb2 => (hn.below hb2).sl
  clear hn h
  go_enter Yba.func11, Yba.ntmps11
  go_wp2_with (go_at_call 18; refine hidx.mono ?_; rintro e w2 ⟨rfl, hb2⟩; have h2 := after w2 hb2)
  go_ret
  exact ⟨rfl, hb.trans (hb2.mono hz)⟩

end Go.Proofs.Ybulkaibe
