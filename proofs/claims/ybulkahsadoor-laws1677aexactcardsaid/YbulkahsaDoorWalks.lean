/-
  THE WALKS of the roads under LawS1677AExact: one contract a function, callees first.
-/
import Derived.Test.YbulkahsaDoorProg
import Derived.WalkKit
import Derived.KernelRfl
namespace Go.Proofs.YbulkahsaDoor
open Go.RowKit

/-! ### The plain mathematics -/
def leapB (y : Int) : Bool := decide (y % 4 = 0 ∧ (y % 100 ≠ 0 ∨ y % 400 = 0))
theorem leap_t {y : Int} (h : y % 4 = 0) (h2 : y % 100 ≠ 0 ∨ y % 400 = 0) : leapB y = true := by simp [leapB, h, h2]
theorem leap_f {y : Int} (h : ¬ (y % 4 = 0 ∧ (y % 100 ≠ 0 ∨ y % 400 = 0))) : leapB y = false := by simp only [leapB, decide_eq_false_iff_not]; exact h
/-- The last day of month m of year y. -/
def lastI (y m : Int) : Int := if m = 2 then (if leapB y then 29 else 28) else if m = 4 ∨ m = 6 ∨ m = 9 ∨ m = 11 then 30 else 31
theorem lastI_bd (y m : Int) : 28 ≤ lastI y m ∧ lastI y m ≤ 31 := by
  unfold lastI; split
  · split <;> omega
  · split <;> omega
theorem hide {p : Prop} (h : p) : Hid p := h
theorem unhide {p : Prop} (h : Hid p) : p := h
theorem ret_int {k : IntKind} {a b : Int} (h : a = b) : Ending.returned (.int k a) = .returned (.int k b) := by rw [h]
theorem ret_bool {a b : Bool} (h : a = b) : Ending.returned (.bool a) = .returned (.bool b) := by rw [h]

/-! ### The leap year, twice -/
set_option maxHeartbeats 400000 in
theorem leap_any (y : Int) (w : World) (h0 : 0 ≤ y) (h1 : y ≤ 100000) : Calls Ybad.prog 20 #[.int .i64 y] w fun e w' => e = .returned (.bool (leapB y)) ∧ w' = w := by
  by_cases a : y % 4 = 0
  · by_cases b : y % 100 = 0
    · by_cases c : y % 400 = 0
      · go_enter Ybad.func20, Ybad.ntmps20
        go_wp2
        go_ret
        exact ⟨ret_bool (leap_t a (.inr c)).symm, rfl⟩
      · go_enter Ybad.func20, Ybad.ntmps20
        go_wp2
        go_ret
        exact ⟨ret_bool (by rw [leap_f (by omega)]; simpa using c), rfl⟩
    · go_enter Ybad.func20, Ybad.ntmps20
      go_wp2
      go_ret
      exact ⟨ret_bool (leap_t a (.inl b)).symm, rfl⟩
  · go_enter Ybad.func20, Ybad.ntmps20
    go_wp2
    go_ret
    exact ⟨ret_bool (leap_f (by omega)).symm, rfl⟩

set_option maxHeartbeats 400000 in
theorem isLeap_any (y : Int) (w : World) (h0 : 0 ≤ y) (h1 : y ≤ 100000) : Calls Ybad.prog 33 #[.int .i64 y] w fun e w' => e = .returned (.bool (leapB y)) ∧ w' = w := by
  by_cases a : y % 4 = 0
  · by_cases b : y % 100 = 0
    · by_cases c : y % 400 = 0
      · go_enter Ybad.func33, Ybad.ntmps33
        go_wp2
        go_ret
        exact ⟨ret_bool (leap_t a (.inr c)).symm, rfl⟩
      · go_enter Ybad.func33, Ybad.ntmps33
        go_wp2
        go_ret
        exact ⟨ret_bool (by rw [leap_f (by omega)]; simpa using c), rfl⟩
    · go_enter Ybad.func33, Ybad.ntmps33
      go_wp2
      go_ret
      exact ⟨ret_bool (leap_t a (.inl b)).symm, rfl⟩
  · go_enter Ybad.func33, Ybad.ntmps33
    go_wp2
    go_ret
    exact ⟨ret_bool (leap_f (by omega)).symm, rfl⟩

theorem last_2 {y m : Int} (h : m = 2) : (leapB y = true → lastI y m = 29) ∧ (leapB y = false → lastI y m = 28) := by
  unfold lastI; rw [if_pos h]; exact ⟨fun e => by rw [if_pos e], fun e => by rw [if_neg (by rw [e]; decide)]⟩
theorem last_30 {y m : Int} (h : m = 4 ∨ m = 6 ∨ m = 9 ∨ m = 11) : lastI y m = 30 := by
  unfold lastI; rw [if_neg (by omega), if_pos h]
theorem last_31 {y m : Int} (h : m ≠ 2) (h' : ¬ (m = 4 ∨ m = 6 ∨ m = 9 ∨ m = 11)) : lastI y m = 31 := by
  unfold lastI; rw [if_neg h, if_neg h']

set_option maxHeartbeats 1000000 in
theorem last_any (y m : Int) (w : World) (h0 : 0 ≤ y) (h1 : y ≤ 100000) (m0 : 1 ≤ m) (m1 : m ≤ 12) : Calls Ybad.prog 9 #[.int .i64 y, .int .i64 m] w fun e w' => e = .returned (.int .i64 (lastI y m)) ∧ w' = w := by
  by_cases hm : m = 2
  · subst hm
    have HL := hide (last_2 (y := y) (m := 2) rfl)
    cases hb : leapB y
    all_goals
      go_enter Ybad.func9, Ybad.ntmps9
      go_wp2_with (go_at_call 20; refine (leap_any _ _ h0 h1).mono ?_; rintro e w' ⟨rfl, rfl⟩)
      go_ret
    · exact ⟨ret_int ((unhide HL).2 hb).symm, rfl⟩
    · exact ⟨ret_int ((unhide HL).1 hb).symm, rfl⟩
  · by_cases h4 : m = 4
    · have HL := hide (last_30 (y := y) (m := m) (by omega))
      subst h4
      go_enter Ybad.func9, Ybad.ntmps9
      go_wp2
      go_ret
      exact ⟨ret_int (unhide HL).symm, rfl⟩
    · by_cases h6 : m = 6
      · have HL := hide (last_30 (y := y) (m := m) (by omega))
        subst h6
        go_enter Ybad.func9, Ybad.ntmps9
        go_wp2
        go_ret
        exact ⟨ret_int (unhide HL).symm, rfl⟩
      · by_cases h9 : m = 9
        · have HL := hide (last_30 (y := y) (m := m) (by omega))
          subst h9
          go_enter Ybad.func9, Ybad.ntmps9
          go_wp2
          go_ret
          exact ⟨ret_int (unhide HL).symm, rfl⟩
        · by_cases h11 : m = 11
          · have HL := hide (last_30 (y := y) (m := m) (by omega))
            subst h11
            go_enter Ybad.func9, Ybad.ntmps9
            go_wp2
            go_ret
            exact ⟨ret_int (unhide HL).symm, rfl⟩
          · have HL := hide (last_31 (y := y) (m := m) (by omega) (by omega))
            go_enter Ybad.func9, Ybad.ntmps9
            go_wp2
            go_ret
            exact ⟨ret_int (unhide HL).symm, rfl⟩

/-! ### A date's three parts -/
abbrev date (a b c : Int) : Value := .agg #[.int .u16 a, .int .u8 b, .int .u8 c]

set_option maxHeartbeats 400000 in
theorem year_any (a b c : Int) (w : World) (a0 : 0 ≤ a) (a1 : a ≤ 65535) : Calls Ybad.prog 17 #[date a b c] w fun e w' => e = .returned (.int .i64 (a + 1)) ∧ Below w.heap.size w w' := by
  go_enter Ybad.func17, Ybad.ntmps17
  go_wp2
  go_ret
  exact ⟨rfl, (Below.refl _ _).alloc (Nat.le_refl _) _⟩

set_option maxHeartbeats 400000 in
theorem month_any (a b c : Int) (w : World) (b0 : 0 ≤ b) (b1 : b ≤ 255) : Calls Ybad.prog 19 #[date a b c] w fun e w' => e = .returned (.int .i64 (b + 1)) ∧ Below w.heap.size w w' := by
  go_enter Ybad.func19, Ybad.ntmps19
  go_wp2
  go_ret
  exact ⟨rfl, (Below.refl _ _).alloc (Nat.le_refl _) _⟩

set_option maxHeartbeats 400000 in
theorem day_any (a b c : Int) (w : World) (c0 : 0 ≤ c) (c1 : c ≤ 255) : Calls Ybad.prog 25 #[date a b c] w fun e w' => e = .returned (.int .i64 (c + 1)) ∧ Below w.heap.size w w' := by
  go_enter Ybad.func25, Ybad.ntmps25
  go_wp2
  go_ret
  exact ⟨rfl, (Below.refl _ _).alloc (Nat.le_refl _) _⟩

set_option maxHeartbeats 400000 in
theorem civil_any (y m d : Int) (w : World) (y0 : 1 ≤ y) (y1 : y ≤ 65535) (m0 : 1 ≤ m) (m1 : m ≤ 255) (d0 : 1 ≤ d) (d1 : d ≤ 255) : Calls Ybad.prog 27 #[.int .i64 y, .int .i64 m, .int .i64 d] w fun e w' => e = .returned (date (y - 1) (m - 1) (d - 1)) ∧ Below w.heap.size w w' := by
  go_enter Ybad.func27, Ybad.ntmps27
  go_wp2
  exact bodyPost_ret (v := date (y - 1) (m - 1) (d - 1)) (by simp [results, Ybad.results27, go_sem]) rfl ⟨rfl, (Below.refl _ _).alloc (Nat.le_refl _) _⟩

/-! ### The days of a month, off the table -/
def mdays : List Int := [31, 28, 31, 30, 31, 30, 31, 31, 30, 31, 30, 31]
/-- The table lies in its variable's block. -/
def Tab (w : World) : Prop := ∀ i, i < 12 → w.cell? ⟨1, i, none⟩ = some (.int .i64 (mdays.getD i 0))
theorem Tab.below {w w' : World} (h : Tab w) (hb : Below w.heap.size w w') : Tab w' := by
  intro i hi
  have h1 : 1 < w.heap.size := by
    have := h 0 (by omega)
    rcases Nat.lt_or_ge 1 w.heap.size with h' | h'
    · exact h'
    · simp [World.cell?, Array.getElem?_eq_none h'] at this
  rw [hb.cell (p := ⟨1, i, none⟩) h1]; exact h i hi

theorem mdays_last (y : Int) (k : Nat) (hk : k < 12) (h : k ≠ 1 ∨ leapB y = false) : mdays.getD k 0 = lastI y (k + 1) := by
  have : k = 0 ∨ k = 1 ∨ k = 2 ∨ k = 3 ∨ k = 4 ∨ k = 5 ∨ k = 6 ∨ k = 7 ∨ k = 8 ∨ k = 9 ∨ k = 10 ∨ k = 11 := by omega
  rcases this with rfl | rfl | rfl | rfl | rfl | rfl | rfl | rfl | rfl | rfl | rfl | rfl
  all_goals first
    | exact (last_31 (by decide) (by decide)).symm
    | exact (last_30 (by decide)).symm
    | exact ((last_2 (by decide)).2 (h.resolve_left (by decide))).symm

set_option maxHeartbeats 400000 in
theorem daysIn_any (y m : Int) (w : World) (h0 : 0 ≤ y) (h1 : y ≤ 100000) (m0 : 1 ≤ m) (m1 : m ≤ 12) (ht : Tab w) : Calls Ybad.prog 26 #[.int .i64 y, .int .i64 m] w fun e w' => e = .returned (.int .i64 (lastI y m)) ∧ w' = w := by
  obtain ⟨k, hk, rfl⟩ : ∃ k : Nat, k < 12 ∧ m = (k : Int) + 1 := ⟨(m - 1).toNat, by omega, by omega⟩
  by_cases hm : k = 1
  · subst hm
    have HL := hide (last_2 (y := y) (m := 2) rfl)
    have hc := ht 1 (by omega)
    cases hb : leapB y
    all_goals
      go_enter Ybad.func26, Ybad.ntmps26
      go_wp2_with (go_at_call 33; refine (isLeap_any _ _ h0 h1).mono ?_; rintro e w' ⟨rfl, rfl⟩)
      go_ret
    · exact ⟨ret_int ((unhide HL).2 hb).symm, rfl⟩
    · exact ⟨ret_int ((unhide HL).1 hb).symm, rfl⟩
  · have HL := hide (mdays_last y k hk (.inl hm))
    have hc := ht k hk
    have hk2 : (k : Int) < 12 := by omega
    have hne : ((k : Int) + 1 == 2) = false := by simp; omega
    go_enter Ybad.func26, Ybad.ntmps26
    go_wp2
    go_ret
    exact ⟨ret_int (unhide HL), rfl⟩

theorem bcell {W w1 : World} (hb : Below W.heap.size W w1) : (∀ b o, b < W.heap.size → w1.cell? ⟨b, o, none⟩ = W.cell? ⟨b, o, none⟩) ∧ (∀ b o, b < W.heap.size → w1.frozen? ⟨b, o, none⟩ = W.frozen? ⟨b, o, none⟩) :=
  ⟨fun b o h => hb.cell (p := ⟨b, o, none⟩) h, fun b o h => hb.frozen (p := ⟨b, o, none⟩) h⟩

theorem Tab.alloc {w : World} (h : Tab w) (o : Obj) : Tab (w.alloc o) := h.below ((Below.refl _ _).alloc (Nat.le_refl _) _)

/-- Three cells of a block of the call's own, not frozen. -/
structure Own3 (w : World) (b : Nat) (x y z : Value) : Prop where
  c0 : w.cell? ⟨b, 0, none⟩ = some x
  c1 : w.cell? ⟨b, 1, none⟩ = some y
  c2 : w.cell? ⟨b, 2, none⟩ = some z
  f0 : w.frozen? ⟨b, 0, none⟩ = false
  f1 : w.frozen? ⟨b, 1, none⟩ = false
  f2 : w.frozen? ⟨b, 2, none⟩ = false
  lt : b < w.heap.size
theorem own3_new (w : World) (x y z : Value) (t : TypeId) : Own3 (w.alloc (.cells #[x, y, z] t)) w.heap.size x y z := by
  have h : (w.alloc (.cells #[x, y, z] t)).heap[w.heap.size]? = some (.cells #[x, y, z] t) := by
    show (w.heap.push _)[w.heap.size]? = _
    simp
  constructor <;> simp
theorem Own3.below {w w' : World} {b : Nat} {x y z : Value} (h : Own3 w b x y z) (hb : Below w.heap.size w w') : Own3 w' b x y z := by
  have hl : b < w.heap.size := h.lt
  have := hb.size
  exact ⟨by rw [hb.cell (by exact hl)]; exact h.c0, by rw [hb.cell (by exact hl)]; exact h.c1, by rw [hb.cell (by exact hl)]; exact h.c2,
    by rw [hb.frozen (by exact hl)]; exact h.f0, by rw [hb.frozen (by exact hl)]; exact h.f1, by rw [hb.frozen (by exact hl)]; exact h.f2, by omega⟩

/-- The day that a move lands on, and whether it was cut. -/
def dayTo (y m c : Int) : Int := if lastI y m < c + 1 then lastI y m else c + 1
def cutB (y m c : Int) : Bool := decide (lastI y m < c + 1)
theorem to_cut {y m c : Int} (h : lastI y m < c + 1) : dayTo y m c = lastI y m ∧ cutB y m c = true := by simp [dayTo, cutB, h]
theorem to_same {y m c : Int} (h : ¬ lastI y m < c + 1) : dayTo y m c = c + 1 ∧ cutB y m c = false := by simp [dayTo, cutB, h]
theorem ret_move {a b c c' : Int} {t t' : Bool} (h1 : c = c') (h2 : t = t') : Ending.returned (.tuple #[date a b (c - 1), .bool t]) = .returned (.tuple #[date a b (c' - 1), .bool t']) := by rw [h1, h2]

set_option maxHeartbeats 1000000 in
theorem inMonth_any (a b c y m : Int) (w : World) (c0 : 0 ≤ c) (c1 : c ≤ 254) (y0 : 1 ≤ y) (y1 : y ≤ 9999) (m0 : 1 ≤ m) (m1 : m ≤ 12) (ht : Tab w) :
    Calls Ybad.prog 18 #[date a b c, .int .i64 y, .int .i64 m] w fun e w' => e = .returned (.tuple #[date (y - 1) (m - 1) (dayTo y m c - 1), .bool (cutB y m c)]) ∧ Below w.heap.size w w' := by
  have hbd := lastI_bd y m
  by_cases hl : lastI y m < c + 1
  · have HE := hide (to_cut hl)
    go_enter Ybad.func18, Ybad.ntmps18
    go_wp2_with fail
    refine (day_any _ _ _ _ c0 (by omega)).mono ?_
    rintro e w1 ⟨rfl, hb1⟩
    have ht1 : Tab w1 := ((ht.alloc _).alloc _).below hb1
    have ho1 := (own3_new _ _ _ _ _).below hb1
    have HB := hide hb1
    clear hb1
    go_wp2_with fail
    refine (daysIn_any _ _ _ (by omega) (by omega) m0 m1 ht1).mono ?_
    rintro e w2 ⟨rfl, rfl⟩
    go_wp2_with fail
    refine (civil_any _ _ _ _ y0 (by omega) m0 (by omega) (by omega) (by omega)).mono ?_
    rintro e w2 ⟨rfl, hb2⟩
    have ho2 := ho1.below hb2
    simp only [World.size_alloc] at ho2
    obtain ⟨k0, k1, k2, g0, g1, g2, lt2⟩ := ho2
    have HB2 := hide hb2
    clear hb2 ho1
    go_wp2
    refine bodyPost_ret (v := .tuple #[date (y - 1) (m - 1) (lastI y m - 1), .bool true]) (by simp [results, Ybad.results18, go_sem, k0, k1, k2]) rfl ⟨ret_move (unhide HE).1.symm (unhide HE).2.symm, ?_⟩
    have hb1 := unhide HB
    have hb2 := unhide HB2
    have := hb1.size
    have := hb2.size
    simp only [World.size_alloc] at *
    exact ((((((Below.refl _ _).alloc (Nat.le_refl _) _).alloc (by simp) _).trans (hb1.mono (by omega))).trans (hb2.mono (by omega))).setCell (by simp) _).setCell (by simp) _ |>.setCell (by simp) _
  · have HE := hide (to_same hl)
    go_enter Ybad.func18, Ybad.ntmps18
    go_wp2_with fail
    refine (day_any _ _ _ _ c0 (by omega)).mono ?_
    rintro e w1 ⟨rfl, hb1⟩
    have ht1 : Tab w1 := ((ht.alloc _).alloc _).below hb1
    have ho1 := (own3_new _ _ _ _ _).below hb1
    have HB := hide hb1
    clear hb1
    go_wp2_with fail
    refine (daysIn_any _ _ _ (by omega) (by omega) m0 m1 ht1).mono ?_
    rintro e w2 ⟨rfl, rfl⟩
    go_wp2_with fail
    refine (civil_any _ _ _ _ y0 (by omega) m0 (by omega) (by omega) (by omega)).mono ?_
    rintro e w2 ⟨rfl, hb2⟩
    have ho2 := ho1.below hb2
    simp only [World.size_alloc] at ho2
    obtain ⟨k0, k1, k2, g0, g1, g2, lt2⟩ := ho2
    have HB2 := hide hb2
    clear hb2 ho1
    go_wp2
    refine bodyPost_ret (v := .tuple #[date (y - 1) (m - 1) (c + 1 - 1), .bool false]) (by simp [results, Ybad.results18, go_sem, k0, k1, k2]) rfl ⟨ret_move (unhide HE).1.symm (unhide HE).2.symm, ?_⟩
    have hb1 := unhide HB
    have hb2 := unhide HB2
    have := hb1.size
    have := hb2.size
    simp only [World.size_alloc] at *
    exact ((((((Below.refl _ _).alloc (Nat.le_refl _) _).alloc (by simp) _).trans (hb1.mono (by omega))).trans (hb2.mono (by omega))).setCell (by simp) _).setCell (by simp) _ |>.setCell (by simp) _

end Go.Proofs.YbulkahsaDoor
