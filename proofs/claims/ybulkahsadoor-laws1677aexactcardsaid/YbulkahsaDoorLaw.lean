/-
  THE LAW's WALK.
-/
import Derived.Test.YbulkahsaDoorYears
import Derived.LaidEql
namespace Go.Proofs.YbulkahsaDoor
open Go.RowKit

theorem Ybad.comp79 : (Ybad.prog.info? 79).map (·.comparable) = some true := by kernel_rfl
theorem Ybad.size96 : (Ybad.prog.info? 96).map (·.size) = some 1 := by kernel_rfl

theorem same_err (p : Addr) (w : World) : (binOp .eql 27 (.iface 79 (.pointer (some p))) (.iface 79 (.pointer (some p)))).run Ybad.prog w = .ok (.bool true) w := by
  obtain ⟨i, hi, hcmp⟩ := Option.map_eq_some_iff.1 Ybad.comp79
  obtain ⟨j, hj, _⟩ := Option.map_eq_some_iff.1 Ybad.size96
  exact run_eql_iface_ptr_same w p Ybad.underlying27 Ybad.underlying79 hi hcmp hj

/-- What the law meets behind its first call: some date of the calendar. -/
theorem law_zero (y m d : Int) (w : World) (y0 : 0 ≤ y) (y1 : y ≤ 65535) (m0 : 0 ≤ m) (m1 : m ≤ 255) (d0 : 0 ≤ d) (d1 : d ≤ 255) :
    Calls Ybad.prog 3 #[.int .u16 y, .int .u8 m, .int .u8 d, .int .i64 0] w fun e w' => e = .returned (.bool true) ∧ Below w.heap.size w w' := by
  have h7 := adate_any y m d w y0 y1 m0 m1 d0 d1
  have HL := lastI_bd (y % 9999 + 1) (m % 12 + 1)
  generalize y % 9999 = A at h7 HL
  generalize m % 12 = B at h7 HL
  generalize d % lastI (A + 1) (B + 1) = C at h7
  clear HL
  have H7 := hide h7
  clear h7
  go_enter Ybad.func3, Ybad.ntmps3
  go_wp2_with fail
  refine (unhide H7).mono ?_
  rintro e w1 ⟨rfl, hb1⟩
  have HB1 := hide hb1
  have hz1 := hb1.size
  clear hb1
  go_wp2_with fail
  refine (addYears_zero _ _ _ _).mono ?_
  rintro e w2 ⟨rfl, hb2⟩
  obtain ⟨k0, k1, k2, g0, g1, g2, lt2⟩ := (own3_new _ _ _ _ _).below hb2
  have HB2 := hide hb2
  clear hb2
  go_wp2
  go_ret
  refine ⟨rfl, ?_⟩
  have hb1 := unhide HB1
  have hb2 := unhide HB2
  have := hb2.size
  simp only [World.size_alloc] at *
  exact ((hb1.alloc (by omega) _).trans (hb2.mono (by omega))).alloc (by omega) _

theorem out_wrap {A n : Int} (a0 : 0 ≤ A) (a1 : A ≤ 9998) (n0 : -9223372036854775808 ≤ n) (n1 : n ≤ 9223372036854775807) (h : n < -A ∨ 9998 - A < n) : wrap64 (A + 1 + n) < 1 ∨ 9999 < wrap64 (A + 1 + n) := by
  by_cases hb : A + 1 + n ≤ 9223372036854775807
  · have : wrap64 (A + 1 + n) = A + 1 + n := by unfold wrap64; omega
    rw [this]; omega
  · left; unfold wrap64; omega

set_option maxHeartbeats 1000000 in
theorem law_out (y m d n : Int) (p : Addr) (w : World) (hE : w.cell? ⟨0, 0, none⟩ = some (.iface 79 (.pointer (some p)))) (y0 : 0 ≤ y) (y1 : y ≤ 65535) (m0 : 0 ≤ m) (m1 : m ≤ 255) (d0 : 0 ≤ d) (d1 : d ≤ 255)
    (n0 : -9223372036854775808 ≤ n) (n1 : n ≤ 9223372036854775807) (hn : (n == 0) = false) (ho : n < -(y % 9999) ∨ 9998 - y % 9999 < n) :
    Calls Ybad.prog 3 #[.int .u16 y, .int .u8 m, .int .u8 d, .int .i64 n] w fun e w' => e = .returned (.bool true) ∧ Below w.heap.size w w' := by
  have h7 := adate_any y m d w y0 y1 m0 m1 d0 d1
  have HL := lastI_bd (y % 9999 + 1) (m % 12 + 1)
  have a0 : 0 ≤ y % 9999 := by omega
  have a1 : y % 9999 ≤ 9998 := by omega
  generalize y % 9999 = A at h7 HL ho a0 a1
  generalize m % 12 = B at h7 HL
  generalize d % lastI (A + 1) (B + 1) = C at h7
  clear HL
  have H7 := hide h7
  clear h7
  have HW := hide (out_wrap a0 a1 n0 n1 ho)
  have hse := fun w => same_err p w
  rcases ho with ho | ho
  all_goals
    go_enter Ybad.func3, Ybad.ntmps3
    go_wp2_with fail
    refine (unhide H7).mono ?_
    rintro e w1 ⟨rfl, hb1⟩
    have he1 := cell_below hE hb1
    have he1' := cell_below he1 ((Below.refl w1.heap.size w1).alloc (Nat.le_refl _) (.cells #[.int .u16 A, .int .u8 B, .int .u8 C] 24))
    have HB1 := hide hb1
    have hz1 := hb1.size
    clear hb1
    go_wp2_with fail
    refine (addYears_out _ _ _ _ _ _ he1' a0 a1 hn (unhide HW)).mono ?_
    rintro e w2 ⟨rfl, hb2⟩
    obtain ⟨k0, k1, k2, g0, g1, g2, lt2⟩ := (own3_new _ _ _ _ _).below hb2
    have he2 := cell_below (cell_below he1' hb2) ((Below.refl w2.heap.size w2).alloc (Nat.le_refl _) (.cells #[.int .u16 0, .int .u8 0, .int .u8 0] 24))
    have HB2 := hide hb2
    clear hb2
    go_wp2
    go_ret
    refine ⟨rfl, ?_⟩
    have hb1 := unhide HB1
    have hb2 := unhide HB2
    have := hb2.size
    simp only [World.size_alloc] at *
    exact ((hb1.alloc (by omega) _).trans (hb2.mono (by omega))).alloc (by omega) _

set_option maxHeartbeats 2000000 in
theorem law_in (y m d n : Int) (w : World) (ht : Tab w) (y0 : 0 ≤ y) (y1 : y ≤ 65535) (m0 : 0 ≤ m) (m1 : m ≤ 255) (d0 : 0 ≤ d) (d1 : d ≤ 255)
    (hn : (n == 0) = false) (h0 : -(y % 9999) ≤ n) (h1 : n ≤ 9998 - y % 9999) :
    Calls Ybad.prog 3 #[.int .u16 y, .int .u8 m, .int .u8 d, .int .i64 n] w fun e w' => e = .returned (.bool true) ∧ Below w.heap.size w w' := by
  have h7 := adate_any y m d w y0 y1 m0 m1 d0 d1
  have HL := lastI_bd (y % 9999 + 1) (m % 12 + 1)
  have a0 : 0 ≤ y % 9999 := by omega
  have a1 : y % 9999 ≤ 9998 := by omega
  have b0 : 0 ≤ m % 12 := by omega
  have b1 : m % 12 ≤ 11 := by omega
  have c0 : 0 ≤ d % lastI (y % 9999 + 1) (m % 12 + 1) := Int.emod_nonneg _ (by omega)
  have c1 : d % lastI (y % 9999 + 1) (m % 12 + 1) ≤ 30 := by have := Int.emod_lt_of_pos d (b := lastI (y % 9999 + 1) (m % 12 + 1)) (by omega); omega
  generalize y % 9999 = A at h7 HL h0 h1 a0 a1 c0 c1
  generalize m % 12 = B at h7 HL b0 b1 c0 c1
  generalize d % lastI (A + 1) (B + 1) = C at h7 c0 c1
  clear HL
  have H7 := hide h7
  clear h7
  have hbd := lastI_bd (A + 1 + n) (B + 1)
  by_cases hl : lastI (A + 1 + n) (B + 1) < C + 1
  · obtain ⟨hE1, hE2⟩ := to_cut hl
    have H8 := hide (fun w ht => addYears_in A B C n w ht a0 a1 b0 b1 c0 (by omega) hn (by omega) (by omega))
    rw [hE1, hE2] at H8
    clear hE1 hE2
    go_enter Ybad.func3, Ybad.ntmps3
    go_wp2_with fail
    refine (unhide H7).mono ?_
    rintro e w1 ⟨rfl, hb1⟩
    have ht1 := (ht.below hb1).alloc (.cells #[.int .u16 A, .int .u8 B, .int .u8 C] 24)
    have HB1 := hide hb1
    have hz1 := hb1.size
    clear hb1
    go_wp2_with fail
    refine (unhide H8 _ ht1).mono ?_
    rintro e w2 ⟨rfl, hb2⟩
    obtain ⟨k0, k1, k2, g0, g1, g2, lt2⟩ := (own3_new _ _ _ _ _).below hb2
    have HB2 := hide hb2
    clear hb2
    go_wp2_with (go_at_call 9; refine (last_any _ _ _ (by omega) (by omega) (by omega) (by omega)).mono ?_; rintro e w' ⟨rfl, rfl⟩)
    go_ret
    refine ⟨rfl, ?_⟩
    have hb1 := unhide HB1
    have hb2 := unhide HB2
    have := hb2.size
    simp only [World.size_alloc] at *
    exact ((hb1.alloc (by omega) _).trans (hb2.mono (by omega))).alloc (by omega) _
  · obtain ⟨hE1, hE2⟩ := to_same hl
    have H8 := hide (fun w ht => addYears_in A B C n w ht a0 a1 b0 b1 c0 (by omega) hn (by omega) (by omega))
    rw [hE1, hE2] at H8
    clear hE1 hE2
    go_enter Ybad.func3, Ybad.ntmps3
    go_wp2_with fail
    refine (unhide H7).mono ?_
    rintro e w1 ⟨rfl, hb1⟩
    have ht1 := (ht.below hb1).alloc (.cells #[.int .u16 A, .int .u8 B, .int .u8 C] 24)
    have HB1 := hide hb1
    have hz1 := hb1.size
    clear hb1
    go_wp2_with fail
    refine (unhide H8 _ ht1).mono ?_
    rintro e w2 ⟨rfl, hb2⟩
    obtain ⟨k0, k1, k2, g0, g1, g2, lt2⟩ := (own3_new _ _ _ _ _).below hb2
    have HB2 := hide hb2
    clear hb2
    go_wp2_with (go_at_call 9; refine (last_any _ _ _ (by omega) (by omega) (by omega) (by omega)).mono ?_; rintro e w' ⟨rfl, rfl⟩)
    go_ret
    refine ⟨rfl, ?_⟩
    have hb1 := unhide HB1
    have hb2 := unhide HB2
    have := hb2.size
    simp only [World.size_alloc] at *
    exact ((hb1.alloc (by omega) _).trans (hb2.mono (by omega))).alloc (by omega) _

/-- THE LAW, FOR EVERY INPUT: under what the two listed variables hold. -/
theorem law_any (y m d n : Int) (p : Addr) (w : World) (hE : w.cell? ⟨0, 0, none⟩ = some (.iface 79 (.pointer (some p)))) (ht : Tab w) (y0 : 0 ≤ y) (y1 : y ≤ 65535) (m0 : 0 ≤ m) (m1 : m ≤ 255) (d0 : 0 ≤ d) (d1 : d ≤ 255)
    (n0 : -9223372036854775808 ≤ n) (n1 : n ≤ 9223372036854775807) :
    Calls Ybad.prog 3 #[.int .u16 y, .int .u8 m, .int .u8 d, .int .i64 n] w fun e w' => e = .returned (.bool true) ∧ Below w.heap.size w w' := by
  by_cases hz : n = 0
  · subst hz; exact law_zero y m d w y0 y1 m0 m1 d0 d1
  · have hn : (n == 0) = false := by simpa using hz
    by_cases ho : n < -(y % 9999) ∨ 9998 - y % 9999 < n
    · exact law_out y m d n p w hE y0 y1 m0 m1 d0 d1 n0 n1 hn ho
    · exact law_in y m d n w ht y0 y1 m0 m1 d0 d1 hn (by omega) (by omega)

end Go.Proofs.YbulkahsaDoor
