/-
  THE WALKS, two: Date.addYears, zzs1677adate.
-/
import Derived.Test.YbulkahsaDoorWalks
import Derived.Deep.RegionHeld3
namespace Go.Proofs.YbulkahsaDoor
open Go.RowKit

theorem cell_below {w w' : World} {b o : Nat} {v : Value} (h : w.cell? ⟨b, o, none⟩ = some v) (hb : Below w.heap.size w w') : w'.cell? ⟨b, o, none⟩ = some v := by
  have hl : b < w.heap.size := by
    rcases Nat.lt_or_ge b w.heap.size with h' | h'
    · exact h'
    · simp [World.cell?, Array.getElem?_eq_none h'] at h
  rw [hb.cell (p := ⟨b, o, none⟩) hl]; exact h

set_option maxHeartbeats 1000000 in
theorem addYears_zero (a b c : Int) (w : World) :
    Calls Ybad.prog 8 #[date a b c, .int .i64 0] w fun e w' => e = .returned (.tuple #[date a b c, .bool false, .nilIface]) ∧ Below w.heap.size w w' := by
  go_enter Ybad.func8, Ybad.ntmps8
  go_wp2
  refine bodyPost_ret (v := .tuple #[date a b c, .bool false, .nilIface]) (by simp [results, Ybad.results8, go_sem]) rfl ⟨rfl, ?_⟩
  exact ((Below.refl _ _).alloc (Nat.le_refl _) _).alloc (by simp) _

set_option maxHeartbeats 1000000 in
theorem addYears_out (a b c n : Int) (p : Addr) (w : World) (hE : w.cell? ⟨0, 0, none⟩ = some (.iface 79 (.pointer (some p)))) (a0 : 0 ≤ a) (a1 : a ≤ 9998)
    (hn : (n == 0) = false) (ho : wrap64 (a + 1 + n) < 1 ∨ 9999 < wrap64 (a + 1 + n)) :
    Calls Ybad.prog 8 #[date a b c, .int .i64 n] w fun e w' => e = .returned (.tuple #[date 0 0 0, .bool false, .iface 79 (.pointer (some p))]) ∧ Below w.heap.size w w' := by
  by_cases ho1 : wrap64 (a + 1 + n) < 1
  · clear ho
    go_enter Ybad.func8, Ybad.ntmps8
    go_wp2_with fail
    refine (year_any _ _ _ _ a0 (by omega)).mono ?_
    rintro e w1 ⟨rfl, hb1⟩
    have he1 := cell_below hE (((Below.refl w.heap.size w).alloc (Nat.le_refl _) _).alloc (by simp) _ |>.trans (hb1.mono (by simp; omega)))
    obtain ⟨k0, k1, k2, g0, g1, g2, lt2⟩ := (own3_new _ _ _ _ _).below hb1
    have HB := hide hb1
    clear hb1
    simp only [World.size_alloc] at k0 k1 k2 g0 g1 g2 lt2
    go_wp2
    go_region
    all_goals
      go_wp2
      refine bodyPost_ret (v := .tuple #[date 0 0 0, .bool false, .iface 79 (.pointer (some p))]) (by simp [results, Ybad.results8, go_sem, k0, k1, k2]) rfl ⟨rfl, ?_⟩
      have hb1 := unhide HB
      have hz := hb1.size
      simp only [World.size_alloc] at hz hb1
      exact (((((((Below.refl _ _).alloc (Nat.le_refl _) _).alloc (by simp) _).trans (hb1.mono (by omega))).setCell (by simp) _).setCell (by simp) _).setCell (by simp) _).drew
  · have ho2 : 9999 < wrap64 (a + 1 + n) := by omega
    clear ho
    go_enter Ybad.func8, Ybad.ntmps8
    go_wp2_with fail
    refine (year_any _ _ _ _ a0 (by omega)).mono ?_
    rintro e w1 ⟨rfl, hb1⟩
    have he1 := cell_below hE (((Below.refl w.heap.size w).alloc (Nat.le_refl _) _).alloc (by simp) _ |>.trans (hb1.mono (by simp; omega)))
    obtain ⟨k0, k1, k2, g0, g1, g2, lt2⟩ := (own3_new _ _ _ _ _).below hb1
    have HB := hide hb1
    clear hb1
    simp only [World.size_alloc] at k0 k1 k2 g0 g1 g2 lt2
    go_wp2
    go_region
    all_goals
      go_wp2
      refine bodyPost_ret (v := .tuple #[date 0 0 0, .bool false, .iface 79 (.pointer (some p))]) (by simp [results, Ybad.results8, go_sem, k0, k1, k2]) rfl ⟨rfl, ?_⟩
      have hb1 := unhide HB
      have hz := hb1.size
      simp only [World.size_alloc] at hz hb1
      exact (((((((Below.refl _ _).alloc (Nat.le_refl _) _).alloc (by simp) _).trans (hb1.mono (by omega))).setCell (by simp) _).setCell (by simp) _).setCell (by simp) _).drew

/-- What holds of every world from the region in addYears on: the receiver's box, the result's box (the block behind it), the table, and that nothing old has turned. -/
abbrev HeldY (w : World) (a b c : Int) (W : World) : Prop :=
  W.cell? ⟨w.heap.size, 0, none⟩ = some (.int .u16 a) ∧ W.cell? ⟨w.heap.size, 1, none⟩ = some (.int .u8 b) ∧ W.cell? ⟨w.heap.size, 2, none⟩ = some (.int .u8 c) ∧
  Own3 W (w.heap.size + 1) (.int .u16 0) (.int .u8 0) (.int .u8 0) ∧ Tab W ∧ Below w.heap.size w W
theorem heldY_below {w W W' : World} {a b c : Int} (h : HeldY w a b c W) (hb : Below W.heap.size W W') : HeldY w a b c W' := by
  obtain ⟨h0, h1, h2, h3, h4, h5⟩ := h
  have := h5.size
  exact ⟨cell_below h0 hb, cell_below h1 hb, cell_below h2 hb, h3.below hb, h4.below hb, h5.trans (hb.mono (by omega))⟩
theorem below_far {w : World} {p : Addr} (v : Value) {B : Nat} (h : B ≤ p.block) : Below B w (w.setCell p v) := (Below.refl _ _).setCell h v
theorem heldY_set {w W : World} {a b c : Int} (h : HeldY w a b c W) {p : Addr} (v : Value) (hp : w.heap.size + 2 ≤ p.block) : HeldY w a b c (W.setCell p v) := by
  obtain ⟨h0, h1, h2, h3, h4, h5⟩ := h
  have hb : Below (w.heap.size + 2) W (W.setCell p v) := below_far v hp
  refine ⟨by rw [hb.cell (by simp)]; exact h0, by rw [hb.cell (by simp)]; exact h1, by rw [hb.cell (by simp)]; exact h2, ?_, ?_, h5.trans (hb.mono (by omega))⟩
  · obtain ⟨k0, k1, k2, g0, g1, g2, lt⟩ := h3
    exact ⟨by rw [hb.cell (by simp)]; exact k0, by rw [hb.cell (by simp)]; exact k1, by rw [hb.cell (by simp)]; exact k2, by rw [hb.frozen (by simp)]; exact g0, by rw [hb.frozen (by simp)]; exact g1, by rw [hb.frozen (by simp)]; exact g2, by have := hb.size; omega⟩
  · intro i hi
    have h1 : 1 < w.heap.size + 2 := by omega
    rw [hb.cell (by exact h1)]; exact h4 i hi

theorem heldY_drew {w W : World} {a b c : Int} (h : HeldY w a b c W) : HeldY w a b c W.drew := heldY_below h (Below.refl _ _).drew
theorem heldY_alloc {w W : World} {a b c : Int} (h : HeldY w a b c W) (o : Obj) : HeldY w a b c (W.alloc o) := heldY_below h ((Below.refl _ _).alloc (Nat.le_refl _) _)
theorem heldY_tab {w W : World} {a b c : Int} (h : HeldY w a b c W) : Tab W := h.2.2.2.2.1
theorem heldY_lt {w W : World} {a b c : Int} (h : HeldY w a b c W) : w.heap.size + 2 ≤ W.heap.size := h.2.2.2.1.lt

theorem heldY_realloc {w W : World} {a b c : Int} {o : Obj} (h : HeldY w a b c (W.alloc o)) (hl : w.heap.size + 2 ≤ W.heap.size) (o' : Obj) : HeldY w a b c (W.alloc o') := by
  obtain ⟨h0, h1, h2, h3, h4, h5⟩ := h
  have hb : Below W.heap.size (W.alloc o) (W.alloc o') := ⟨rfl, rfl, rfl, by simp, fun k hk => by rw [Below.heap_alloc _ _ _ hk, Below.heap_alloc _ _ _ hk]⟩
  have l0 : w.heap.size < W.heap.size := by omega
  have l1 : w.heap.size + 1 < W.heap.size := by omega
  refine ⟨by rw [hb.cell (by exact l0)]; exact h0, by rw [hb.cell (by exact l0)]; exact h1, by rw [hb.cell (by exact l0)]; exact h2, ?_, ?_, h5.trans (hb.mono (by omega))⟩
  · obtain ⟨k0, k1, k2, g0, g1, g2, lt⟩ := h3
    exact ⟨by rw [hb.cell (by exact l1)]; exact k0, by rw [hb.cell (by exact l1)]; exact k1, by rw [hb.cell (by exact l1)]; exact k2, by rw [hb.frozen (by exact l1)]; exact g0, by rw [hb.frozen (by exact l1)]; exact g1, by rw [hb.frozen (by exact l1)]; exact g2, by simp; omega⟩
  · intro i hi
    have h1 : 1 < W.heap.size := by omega
    rw [hb.cell (by exact h1)]; exact h4 i hi
theorem heldY_set3 {w W : World} {a b c : Int} (h : HeldY w a b c W) {p : Nat} (x y z : Value) (hp : w.heap.size + 2 ≤ p) : HeldY w a b c (((W.setCell ⟨p, 0, none⟩ x).setCell ⟨p, 1, none⟩ y).setCell ⟨p, 2, none⟩ z) :=
  heldY_set (heldY_set (heldY_set h _ hp) _ hp) _ hp

theorem own3_new_drew (w : World) (x y z : Value) (t : TypeId) : Own3 (w.alloc (.cells #[x, y, z] t)).drew w.heap.size x y z := (own3_new w x y z t).below (Below.refl _ _).drew

set_option maxHeartbeats 2000000 in
theorem addYears_in (a b c n : Int) (w : World) (ht : Tab w) (a0 : 0 ≤ a) (a1 : a ≤ 9998) (b0 : 0 ≤ b) (b1 : b ≤ 11) (c0 : 0 ≤ c) (c1 : c ≤ 254)
    (hn : (n == 0) = false) (n0 : 1 ≤ a + 1 + n) (n1 : a + 1 + n ≤ 9999) :
    Calls Ybad.prog 8 #[date a b c, .int .i64 n] w fun e w' => e = .returned (.tuple #[date (a + 1 + n - 1) b (dayTo (a + 1 + n) (b + 1) c - 1), .bool (cutB (a + 1 + n) (b + 1) c), .nilIface]) ∧ Below w.heap.size w w' := by
  go_enter Ybad.func8, Ybad.ntmps8
  go_wp2_with fail
  refine (year_any _ _ _ _ a0 (by omega)).mono ?_
  rintro e w1 ⟨rfl, hb1⟩
  have hH : HeldY w a b c w1 := by
    have hz := hb1.size
    simp only [World.size_alloc] at hz
    exact ⟨cell_below (by simp) hb1, cell_below (by simp) hb1, cell_below (by simp) hb1, by have := (own3_new _ _ _ _ _).below hb1; simpa only [World.size_alloc] using this, ((ht.alloc _).alloc _).below hb1,
      ((Below.refl w.heap.size w).alloc (Nat.le_refl _) _).alloc (by simp) _ |>.trans (hb1.mono (by simp; omega))⟩
  clear hb1
  have hl1 := heldY_lt hH
  go_wp2
  go_region_held3 (fun W => HeldY w a b c W) (with_reducible first | assumption | exact heldY_drew (by assumption) | exact heldY_alloc (by assumption) _ | exact heldY_drew (heldY_alloc (by assumption) _) | exact heldY_below (by assumption) (by assumption) | exact heldY_realloc (by assumption) (by assumption) _ | exact heldY_set3 (by assumption) _ _ _ (by assumption)) (first | (go_at_call 19; refine (month_any _ _ _ _ b0 (by omega)).mono ?_; rintro e w' ⟨rfl, hbm⟩; have hlm := heldY_lt (w := w) (a := a) (b := b) (c := c) (heldY_below (by assumption) hbm); first | (with_reducible have hom := (own3_new_drew _ _ _ _ _).below hbm) | skip) | (go_at_call 18; refine (inMonth_any _ _ _ _ _ _ c0 c1 n0 n1 (by omega) (by omega) ?_).mono ?_; exact heldY_tab (w := w) (a := a) (b := b) (c := c) (by assumption); rintro e w' ⟨rfl, hbi⟩; have hli := heldY_lt (w := w) (a := a) (b := b) (c := c) (heldY_below (by assumption) hbi); first | (with_reducible have hoi := (own3_new _ _ _ _ _).below hbi; (try simp only [World.size_drew, World.size_alloc] at hoi); obtain ⟨q0, q1, q2, q3, q4, q5, q6⟩ := hoi) | (with_reducible have hoi := hom.below hbi; (try simp only [World.size_drew, World.size_alloc] at hoi); obtain ⟨q0, q1, q2, q3, q4, q5, q6⟩ := hoi) | skip))
  all_goals
    have hHe := ‹HeldY w a b c _›
    obtain ⟨⟨k0, k1, k2, g0, g1, g2, lt2⟩, -, hbe⟩ := hHe.2.2.2
    have HB := hide hbe
    clear hbe
    go_wp2
    refine bodyPost_ret (v := .tuple #[date (a + 1 + n - 1) b (dayTo (a + 1 + n) (b + 1) c - 1), .bool (cutB (a + 1 + n) (b + 1) c), .nilIface]) (by simp [results, Ybad.results8, go_sem, k0, k1, k2]) rfl ⟨rfl, ?_⟩
    exact (((unhide HB).setCell (by simp) _).setCell (by simp) _).setCell (by simp) _

set_option maxHeartbeats 1000000 in
theorem adate_any (y m d : Int) (w : World) (y0 : 0 ≤ y) (y1 : y ≤ 65535) (m0 : 0 ≤ m) (m1 : m ≤ 255) (d0 : 0 ≤ d) (d1 : d ≤ 255) :
    Calls Ybad.prog 7 #[.int .u16 y, .int .u8 m, .int .u8 d] w fun e w' => e = .returned (date (y % 9999) (m % 12) (d % lastI (y % 9999 + 1) (m % 12 + 1))) ∧ Below w.heap.size w w' := by
  have hbd := lastI_bd (y % 9999 + 1) (m % 12 + 1)
  have e0 : 0 ≤ d % lastI (y % 9999 + 1) (m % 12 + 1) := Int.emod_nonneg _ (by omega)
  have e1 : d % lastI (y % 9999 + 1) (m % 12 + 1) ≤ 30 := by have := Int.emod_lt_of_pos d (b := lastI (y % 9999 + 1) (m % 12 + 1)) (by omega); omega
  go_enter Ybad.func7, Ybad.ntmps7
  go_wp2_with fail
  refine (last_any _ _ _ (by omega) (by omega) (by omega) (by omega)).mono ?_
  rintro e w1 ⟨rfl, rfl⟩
  go_wp2
  exact bodyPost_ret (v := date (y % 9999) (m % 12) (d % lastI (y % 9999 + 1) (m % 12 + 1))) (by simp [results, Ybad.results7, go_sem]) rfl ⟨rfl, (Below.refl _ _).alloc (Nat.le_refl _) _⟩

end Go.Proofs.YbulkahsaDoor
