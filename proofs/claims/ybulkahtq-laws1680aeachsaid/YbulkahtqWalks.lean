/-
  THE WALKS that both laws share: (time.Duration).Seconds, zzs1680asec, benchkit.Seconds.
-/
import Derived.Test.YbulkahtqRows
import Derived.Test.YbulkahtqFloat
import Derived.WalkKit
import Derived.Laws.FloatArith
import Derived.Deep.OwnRows
namespace Go.Proofs.Ybulkahtq
open Go.RowKit Go.Deep Flt

theorem Yba.info24 : (Yba.prog.info? 24).map (fun i => (i.zero, i.size, i.bytes)) = some (some (.int .i64 0), 1, 8) := by kernel_rfl
theorem Yba.info27 : (Yba.prog.info? 27).map (fun i => (i.zero, i.size, i.bytes)) = some (some (.float .f64 0), 1, 8) := by kernel_rfl

theorem tdiv_bd (n : Int) (h0 : -9223372036854775808 ≤ n) (h1 : n ≤ 9223372036854775807) : (-9223372036854775808 ≤ n.tdiv 1000000000 ∧ n.tdiv 1000000000 ≤ 9223372036854775807) ∧ (-1000000000 ≤ n.tmod 1000000000 ∧ n.tmod 1000000000 ≤ 1000000000) := by
  by_cases h : 0 ≤ n
  · rw [Int.tdiv_eq_ediv_of_nonneg h, Int.tmod_eq_emod_of_nonneg h]; omega
  · obtain ⟨k, rfl⟩ : ∃ k, n = -k := ⟨-n, by omega⟩
    rw [Int.neg_tdiv, Int.neg_tmod, Int.tdiv_eq_ediv_of_nonneg (by omega), Int.tmod_eq_emod_of_nonneg (by omega)]; omega

theorem ofI_eq (n : Int) : floatOfInt .f64 n = ofI n := rfl

theorem run_frac (n : Int) (t : TypeId) (w : World) : (binOp .quo t (.float .f64 (floatOfInt .f64 (n.tmod 1000000000))) (.float .f64 4741671816366391296)).run Yba.prog w = .ok (.float .f64 (frac n)) w :=
  run_float_arith w .quo t .f64 _ _ _ (frac_eq n)
theorem run_secs (n : Int) (t : TypeId) (w : World) : (binOp .add t (.float .f64 (floatOfInt .f64 (n.tdiv 1000000000))) (.float .f64 (frac n))).run Yba.prog w = .ok (.float .f64 (secs n)) w :=
  run_float_arith w .add t .f64 _ _ _ (secs_sg n).1

set_option maxHeartbeats 400000 in
theorem dur_any (n : Int) (w : World) (h0 : -9223372036854775808 ≤ n) (h1 : n ≤ 9223372036854775807) :
    Calls Yba.prog 7 #[.int .i64 n] w fun e w' => e = .returned (.float .f64 (secs n)) ∧ w' = w := by
  obtain ⟨⟨a1, a2⟩, a3, a4⟩ := tdiv_bd n h0 h1
  have hf := fun w => run_frac n 27 w
  have hs := fun w => run_secs n 27 w
  go_enter Yba.func7, Yba.ntmps7
  go_wp2
  go_ret
  exact ⟨rfl, rfl⟩

set_option maxHeartbeats 400000 in
theorem sec_any (n : Int) (w : World) (h0 : -9223372036854775808 ≤ n) (h1 : n ≤ 9223372036854775807) :
    Calls Yba.prog 6 #[.int .i64 n] w fun e w' => e = .returned (.float .f64 (secs n)) ∧ w' = w := by
  obtain ⟨⟨a1, a2⟩, a3, a4⟩ := tdiv_bd n h0 h1
  have hf := fun w => run_frac n 27 w
  have hs := fun w => run_secs n 27 w
  go_enter Yba.func6, Yba.ntmps6
  go_wp2
  go_ret
  exact ⟨rfl, rfl⟩

theorem run_store_float (P : Program) (w : World) (a : Addr) (m : Mode) (n : Nat) : (store a (.float .f64 n) m).run P w = stored P w a (.float .f64 n) m := run_store P w a _ m rfl
attribute [local go_sem] run_store_float

/-- The first k of the seconds are laid, the others are nought. -/
def secRow (z : Nat → Int) (k : Nat) (j : Nat) : Value := if j < k then .float .f64 (secs (z j)) else .float .f64 0
theorem secRow_step (z : Nat → Int) (k j : Nat) : (if j = k then Value.float .f64 (secs (z k)) else secRow z k j) = secRow z (k + 1) j := by
  unfold secRow
  by_cases h : j = k
  · subst h; rw [if_pos rfl, if_pos (by omega)]
  · rw [if_neg h]
    by_cases h' : j < k
    · rw [if_pos h', if_pos (by omega)]
    · rw [if_neg h', if_neg (by omega)]
theorem secRow_start (z : Nat → Int) (j : Nat) : Value.float .f64 0 = secRow z 0 j := by unfold secRow; rw [if_neg (by omega)]
theorem secRow_end (z : Nat → Int) (n j : Nat) (h : j < n) : secRow z n j = .float .f64 (secs (z j)) := by unfold secRow; rw [if_pos h]
theorem secRow_here (z : Nat → Int) (k : Nat) : secRow z k k = .float .f64 0 := by unfold secRow; rw [if_neg (by omega)]

set_option maxHeartbeats 1000000 in
theorem seconds_any (b n : Nat) (z : Nat → Int) (w : World) (hn : n ≤ 1024) (hr : w.rowIs b 24 n (fun i => .int .i64 (z i))) (hz : ∀ i, -9223372036854775808 ≤ z i ∧ z i ≤ 9223372036854775807) :
    Calls Yba.prog 5 #[.slice (some ⟨b, 0, none⟩) n n] w fun e w' => e = .returned (.slice (some ⟨w.heap.size, 0, none⟩) n n) ∧ w'.rowIs w.heap.size 27 n (fun i => .float .f64 (secs (z i))) ∧ Below w.heap.size w w' := by
  have hmk := fun w => run_make_row' (P := Yba.prog) 25 27 (.float .f64 0) 8 Yba.underlying25 Yba.info27 rfl .i64 .i64 n (by omega) (by omega) w
  have hlt := hr.lt
  have HR := hr
  clear hr
  go_enter Yba.func5, Yba.ntmps5
  go_wp2
  go_loopw [11] (fun i wr => ∃ k : Nat, k ≤ n ∧ i = .int .i64 k ∧ wr.rowIs w.heap.size 27 n (secRow z k) ∧ Below w.heap.size w wr) (fun i _ => n - (intOf i).toNat)
  case atStart => exact ⟨0, Nat.zero_le _, rfl, (World.rowIs_made _ _ _ _).congr (fun i _ => secRow_start z i), (Below.refl _ _).alloc (Nat.le_refl _) _⟩
  case round =>
    obtain ⟨k, hk, rfl, hrow, hbel⟩ := hrel
    by_cases hk2 : k < n
    · have hc : wr.cell? ⟨b, k, none⟩ = some (.int .i64 (z k)) := (hbel.cell (p := ⟨b, k, none⟩) hlt).trans (HR.cell hk2)
      have hd : wr.cell? ⟨w.heap.size, k, none⟩ = some (.float .f64 0) := (hrow.cell hk2).trans (by rw [secRow_here])
      have hf := hrow.frozen k
      have hzk := hz k
      go_wp2_with (go_at_call 7; refine (dur_any _ _ hzk.1 hzk.2).mono ?_; rintro e w' ⟨rfl, rfl⟩)
      go_roundw
      case rel => exact ⟨k + 1, by omega, by go_num, (hrow.set k _).congr (fun j _ => secRow_step z k j), hbel.setCell (Nat.le_refl _) _⟩
      case measure => simp [intOf]; omega
    · have hkn : k = n := by omega
      have HK : Hid (k = n) := hkn
      clear hkn
      go_wp2
      go_ret
      exact ⟨rfl, hrow.congr (fun j hj => by rw [HK.out]; exact secRow_end z n j hj), hbel⟩

end Go.Proofs.Ybulkahtq
