/-
  THE WALKS of agent's 'Change.Apply' and of what it calls.
-/
import Derived.Test.YbulkahtqFmtWait
namespace Go.Proofs.YbulkahtqFmt
open Go.RowKit Go.WideMaps Go.Maps Kit

set_option maxHeartbeats 400000 in
theorem targets_any (x : ByteArray) (wb n c : Nat) (a : Option Addr) (w : World) (h : w.cell? ⟨wb, 1, none⟩ = some (.slice a n c)) :
    Calls Ybaf.prog 54 #[.agg #[.string x, ptr wb, .bool false]] w fun e w' => e = .returned (.slice a n c) ∧ Hid (w' = w.alloc (.cells #[.string x, ptr wb, .bool false] 91)) := by
  have hl := cell_lt h
  go_enter Ybaf.func54, Ybaf.ntmps54
  go_wp2
  go_ret
  exact ⟨rfl, hide rfl⟩

theorem GS.frame {base : Nat} {w w' : World} {R : Nat → Role} {g : Nat} {L : ByteArray → List ByteArray} {K : ByteArray → Prop} {N : Nat} (h : GS base w R g L K N) (hz : w.heap.size ≤ w'.heap.size) (hb : ∀ k, k < w.heap.size → R k ≠ .other → w'.heap[k]? = w.heap[k]?) {N' : Nat} (hN : N ≤ N') : GS base w' R g L K N' := by
  obtain ⟨pm, wm, T, W, E, nm, pf, hL, hr⟩ := h.ex
  exact ⟨pm, wm, T, W, E, nm, pf, hL.frame hz hb hN, hr⟩
theorem GS.fresh {base : Nat} {w : World} {R : Nat → Role} {g : Nat} {L : ByteArray → List ByteArray} {K : ByteArray → Prop} {N : Nat} (h : GS base w R g L K N) : ∀ k, w.heap.size ≤ k → R k = .other := by
  obtain ⟨pm, wm, T, W, E, nm, pf, hL, hr⟩ := h.ex
  exact hL.fresh
theorem Fr.of_below {R : Nat → Role} {w w' : World} (h : Below w.heap.size w w') : Fr R R w w' := ⟨h.os, h.tape, h.output, h.size, fun k hk e => ⟨e, h.block k hk⟩, fun _ e => e⟩
theorem Fr.cell {R R' : Nat → Role} {w w' : World} (h : Fr R R' w w') {b : Nat} (hb : R b = .other) {i : Nat} {v : Value} (hv : w.cell? ⟨b, i, none⟩ = some v) : w'.cell? ⟨b, i, none⟩ = some v := by
  rw [World.cell?_of_block (w := w) (h.oth b (cell_lt hv) hb).2]; exact hv

section
variable {base : Nat} {R : Nat → Role} {g : Nat} {L : ByteArray → List ByteArray} {K : ByteArray → Prop} {N : Nat}

set_option maxHeartbeats 4000000 in
theorem apply_is (w : World) (h : GS base w R g L K N) (hN : N ≤ 40000000) (x : ByteArray) (hx : x.size ≤ maxLen) (orw : Bool) (wb : Nat) (a0 : Option Addr) (n0 c0 : Nat) (hw1 : w.cell? ⟨wb, 1, none⟩ = some (.slice a0 n0 c0)) (xs : List ByteArray) (hxs : xs.length = n0) (hn0 : n0 ≤ 1024) (hnd : xs.Nodup) (hsz : ∀ y ∈ xs, y.size ≤ maxLen)
    (hrow : 0 < n0 → ∃ b off, a0 = some ⟨b, off, none⟩ ∧ R b = .other ∧ ∀ i, i < n0 → w.cell? ⟨b, off + i, none⟩ = some (.string (xs.getD i ByteArray.empty))) :
    Calls Ybaf.prog 37 #[.agg #[.string x, ptr wb, .bool false], ptr g, .string x, .bool orw] w fun e w' => ∃ b, e = .returned (.tuple #[.slice (some ⟨b, 0, none⟩) 1 1, .bool (decide (0 < (L x).length))]) ∧ w'.cell? ⟨b, 0, none⟩ = some (.string x) ∧ w.heap.size ≤ b ∧ ∃ R', R' b = .other ∧ GS base w' R' g (updL L x xs) (fun y => y = x ∨ K y) (N + 8000) ∧ Fr R R' w w' := by
  have hl := cell_lt hw1
  have hB : Below w.heap.size w (w.alloc (.cells #[.string x, ptr wb, .bool false] 91)) := (Below.refl _ _).alloc (Nat.le_refl _) _
  go_enter Ybaf.func37, Ybaf.ntmps37
  go_wp2
  have k0 : (w.alloc (.cells #[.string x, ptr wb, .bool false] 91)).drew.cell? ⟨w.heap.size, 0, none⟩ = some (.string x) := cell_of_blk (blk_new w _) (i := 0) rfl
  have k1 : (w.alloc (.cells #[.string x, ptr wb, .bool false] 91)).drew.cell? ⟨w.heap.size, 1, none⟩ = some (ptr wb) := cell_of_blk (blk_new w _) (i := 1) rfl
  have k2 : (w.alloc (.cells #[.string x, ptr wb, .bool false] 91)).drew.cell? ⟨w.heap.size, 2, none⟩ = some (.bool false) := cell_of_blk (blk_new w _) (i := 2) rfl
  have kw : (w.alloc (.cells #[.string x, ptr wb, .bool false] 91)).drew.cell? ⟨wb, 1, none⟩ = some (.slice a0 n0 c0) := by
    rw [hB.drew.cell (p := ⟨wb, 1, none⟩) hl]; exact hw1
  have hB1 := hB.drew
  have hz1 : (w.alloc (.cells #[.string x, ptr wb, .bool false] 91)).drew.heap.size = w.heap.size + 1 := by show (w.alloc _).heap.size = _; simp
  generalize (w.alloc (.cells #[.string x, ptr wb, .bool false] 91)) = w1 at k0 k1 k2 kw hB1 hz1 ⊢
  have hcall : ∀ w2, Hid (w2 = w1.drew.alloc (.cells #[.string x, ptr wb, .bool false] 91)) → Calls Ybaf.prog 53 #[ptr g, .string x, .string x, .slice a0 n0 c0] w2 fun e w3 => e = .returned (.tuple #[.bool (decide (0 < (L x).length)), .nilIface]) ∧ ∃ R3, GS base w3 R3 g (updL L x xs) (fun y => y = x ∨ K y) (N + 8000) ∧ Fr R R3 w w3 ∧
      w3.cell? ⟨w.heap.size, 0, none⟩ = some (.string x) ∧ w3.cell? ⟨w.heap.size, 1, none⟩ = some (ptr wb) ∧ w3.cell? ⟨w.heap.size, 2, none⟩ = some (.bool false) := by
    intro w2 hw2
    replace hw2 := unhide hw2
    have hB2 : Below w.heap.size w w2 := by rw [hw2]; exact hB1.alloc (by omega) _
    have hG2 : GS base w2 R g L K N := h.frame hB2.size (fun k hk _ => hB2.block k hk) (Nat.le_refl _)
    have hc2 : ∀ i v, w1.drew.cell? ⟨w.heap.size, i, none⟩ = some v → w2.cell? ⟨w.heap.size, i, none⟩ = some v := fun i v hv => by
      rw [hw2, World.cell?_of_block (w := w1.drew) (blk_old _ _ (by simp only; omega))]; exact hv
    have ho := h.fresh w.heap.size (Nat.le_refl _)
    refine (wait_is w2 hG2 hN x hx a0 n0 c0 xs hxs hn0 hnd hsz (fun hn => ?_)).mono ?_
    · obtain ⟨b, off, e1, e2, e3⟩ := hrow hn
      refine ⟨b, off, e1, e2, fun i hi => ?_⟩
      rw [hB2.cell (p := ⟨b, off + i, none⟩) (cell_lt (e3 i hi))]; exact e3 i hi
    · rintro e w3 ⟨rfl, R3, hG3, hF3⟩
      exact ⟨rfl, R3, hG3, (Fr.of_below hB2).trans hF3, hF3.cell ho (hc2 0 _ k0), hF3.cell ho (hc2 1 _ k1), hF3.cell ho (hc2 2 _ k2)⟩
  have hc2 : ∀ w2, Hid (w2 = w1.drew.alloc (.cells #[.string x, ptr wb, .bool false] 91)) → w2.cell? ⟨w.heap.size, 0, none⟩ = some (.string x) ∧ w2.cell? ⟨w.heap.size, 1, none⟩ = some (ptr wb) ∧ w2.cell? ⟨w.heap.size, 2, none⟩ = some (.bool false) := fun w2 hw2 => by
    replace hw2 := unhide hw2
    rw [hw2, World.cell?_of_block (w := w1.drew) (blk_old _ _ (by simp only; omega)), World.cell?_of_block (w := w1.drew) (a := ⟨w.heap.size, 1, none⟩) (blk_old _ _ (by simp only; omega)), World.cell?_of_block (w := w1.drew) (a := ⟨w.heap.size, 2, none⟩) (blk_old _ _ (by simp only; omega))]
    exact ⟨k0, k1, k2⟩
  have ho := h.fresh w.heap.size (Nat.le_refl _)
  clear hrow hxs hnd hsz
  go_region_held3 (fun W => W.cell? ⟨w.heap.size, 0, none⟩ = some (.string x) ∧ W.cell? ⟨w.heap.size, 1, none⟩ = some (ptr wb) ∧ W.cell? ⟨w.heap.size, 2, none⟩ = some (.bool false)) (with_reducible first | exact ⟨by assumption, by assumption, by assumption⟩) (first | (go_at_call 54; refine (targets_any x wb n0 c0 a0 _ kw).mono ?_; rintro e w2 ⟨rfl, hw2⟩; obtain ⟨j0, j1, j2⟩ := hc2 w2 hw2) | (go_at_call 53; refine (hcall w2 hw2).mono ?_; rintro e w3 ⟨rfl, R3, hG3, hF3, m0, m1, m2⟩))
  have H3 := hide (And.intro hG3 hF3)
  clear hG3 hF3 m1 m2
  go_wp2
  go_ret2
  obtain ⟨hG3, hF3⟩ := unhide H3
  have hB4 : Below w3.heap.size w3 (w3.alloc (.cells #[.string x] 9)) := (Below.refl _ _).alloc (Nat.le_refl _) _
  exact ⟨w3.heap.size, rfl, cell_of_blk (blk_new w3 _) (i := 0) rfl, hF3.size, R3, hG3.fresh _ (Nat.le_refl _), hG3.frame hB4.size (fun k hk _ => hB4.block k hk) (Nat.le_refl _), hF3.trans (Fr.of_below hB4)⟩
end

end Go.Proofs.YbulkahtqFmt
