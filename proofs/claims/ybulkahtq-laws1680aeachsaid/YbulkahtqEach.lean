/-
  THE WALK of LawS1680AEach.
-/
import Derived.Test.YbulkahtqSign
import Derived.Lib.SliceRun
namespace Go.Proofs.Ybulkahtq
open Go.RowKit Go.Deep Flt

set_option maxHeartbeats 2000000 in
theorem each_some (b off n c : Nat) (z : Nat → Int) (w : World) (hn : n ≤ 1024) (hb : b < w.heap.size) (hc : ∀ i, i < n → w.cell? ⟨b, off + i, none⟩ = some (.int .i64 (z i))) (hz : ∀ i, -9223372036854775808 ≤ z i ∧ z i ≤ 9223372036854775807) :
    Calls Yba.prog 3 #[.slice (some ⟨b, off, none⟩) n c] w fun e w' => e = .returned (.bool true) ∧ Below w.heap.size w w' := by
  have hmk := fun w => run_make_row' (P := Yba.prog) 23 24 (.int .i64 0) 8 Yba.underlying23 Yba.info24 rfl .i64 .i64 n (by omega) (by omega) w
  have hnil := fun w a l c => Lib.run_eql_slice_nil (P := Yba.prog) w 25 27 a l c 0 0 Yba.underlying25
  go_enter Yba.func3, Yba.ntmps3
  go_wp2
  go_loopw [4] (fun i wr => ∃ k : Nat, k ≤ n ∧ i = .int .i64 k ∧ wr.rowIs w.heap.size 24 n (durRow z k) ∧ Below w.heap.size w wr) (fun i _ => n - (intOf i).toNat)
  case atStart => exact ⟨0, Nat.zero_le _, rfl, (World.rowIs_made _ _ _ _).congr (fun i _ => durRow_start z i), (Below.refl _ _).alloc (Nat.le_refl _) _⟩
  case round =>
    obtain ⟨k, hk, rfl, hrow, hbel⟩ := hrel
    by_cases hk2 : k < n
    · have hcc : wr.cell? ⟨b, off + k, none⟩ = some (.int .i64 (z k)) := (hbel.cell (p := ⟨b, off + k, none⟩) hb).trans (hc k hk2)
      have hd : wr.cell? ⟨w.heap.size, k, none⟩ = some (.int .i64 0) := (hrow.cell hk2).trans (by rw [durRow_here])
      have hf := hrow.frozen k
      go_wp2
      go_roundw
      case rel => exact ⟨k + 1, by omega, by go_num, (hrow.set k _).congr (fun j _ => durRow_step z k j), hbel.setCell (Nat.le_refl _) _⟩
      case measure => simp [intOf]; omega
    · have hrow2 : wr.rowIs w.heap.size 24 n (fun i => .int .i64 (z i)) := hrow.congr (fun j hj => by rw [show k = n by omega]; exact durRow_end z n j hj)
      have hlt := hrow2.lt
      go_wp2_with fail
      refine (seconds_any w.heap.size n z _ hn hrow2 hz).mono ?_
      rintro e w1 ⟨rfl, hs1, hb1⟩
      have hd1 := hrow2.of_block (hb1.block _ hlt)
      have hbel1 := hbel.trans (hb1.mono (by omega))
      clear hrow hrow2 hb1 hbel
      go_wp2
      go_loopw [6] (fun i wx => ∃ k : Nat, k ≤ n ∧ i = .int .i64 k ∧ wx.rowIs w.heap.size 24 n (fun i => .int .i64 (z i)) ∧ wx.rowIs wr.heap.size 27 n (fun i => .float .f64 (secs (z i))) ∧ Below w.heap.size w wx) (fun i _ => n - (intOf i).toNat)
      case atStart => exact ⟨0, Nat.zero_le _, rfl, hd1, hs1, hbel1⟩
      case round =>
        clear hd1 hs1 hbel1
        obtain ⟨k, hk, rfl, hrd, hrs, hbel⟩ := hrel
        by_cases hk2 : k < n
        · have hcc := (hbel.cell (p := ⟨b, off + k, none⟩) hb).trans (hc k hk2)
          have hcd := hrd.cell hk2
          have hcs := hrs.cell hk2
          have hzk := hz k
          have hself : (FloatKind.f64.format.order (secs (z k)) (secs (z k)) != some .eq) = false := by
            have : FloatKind.f64.format.order (secs (z k)) (secs (z k)) = some .eq := secs_self (z k)
            rw [this]; rfl
          clear hcd
          go_wp2
          go_quiet ((go_at_call 6; exact Calls.quiet_of_same (sec_any _ _ hzk.1 hzk.2)))
          go_wp2
          go_roundw
          case rel => exact ⟨k + 1, by omega, by go_num, hrd, hrs, below_drewN hbel _⟩
          case measure => simp [intOf]; omega
        · go_wp2
          go_ret
          exact ⟨rfl, hbel⟩

set_option maxHeartbeats 400000 in
theorem each_long (a : Option Addr) (n c : Nat) (w : World) (hn : 1024 < n) :
    Calls Yba.prog 3 #[.slice a n c] w fun e w' => e = .returned (.bool true) ∧ Below w.heap.size w w' := by
  have hnil := fun w a l c => Lib.run_eql_slice_nil (P := Yba.prog) w 25 27 a l c 0 0 Yba.underlying25
  go_enter Yba.func3, Yba.ntmps3
  go_wp2
  go_ret
  exact ⟨rfl, Below.refl _ _⟩

set_option maxHeartbeats 1000000 in
theorem each_none (a : Option Addr) (c : Nat) (w : World) :
    Calls Yba.prog 3 #[.slice a 0 c] w fun e w' => e = .returned (.bool true) ∧ Below w.heap.size w w' := by
  have hmk : ∀ w, (Instr.makeSlice 23 (.int .i64 0) (.int .i64 0)).run Yba.prog w = .ok (.slice (some ⟨w.heap.size, 0, none⟩) 0 0) (w.alloc (.cells (madeCells #[.int .i64 0] 0) 24)) := fun w => run_make_row' (P := Yba.prog) 23 24 (.int .i64 0) 8 Yba.underlying23 Yba.info24 rfl .i64 .i64 0 (by omega) (by omega) w
  have hnil := fun w a l c => Lib.run_eql_slice_nil (P := Yba.prog) w 25 27 a l c 0 0 Yba.underlying25
  go_enter Yba.func3, Yba.ntmps3
  go_wp2
  go_loopw [4] (fun i wr => i = .int .i64 0 ∧ wr = w.alloc (.cells (madeCells #[.int .i64 0] 0) 24)) (fun _ _ => 0)
  case atStart => exact ⟨rfl, rfl⟩
  case round =>
    obtain ⟨rfl, rfl⟩ := hrel
    go_wp2_with fail
    refine (seconds_any w.heap.size 0 (fun _ => 0) _ (by omega) ((World.rowIs_made w (.int .i64 0) 0 24).congr (fun i hi => by omega)) (fun _ => by omega)).mono ?_
    rintro e w1 ⟨rfl, hs1, hb1⟩
    have hbel1 : Below w.heap.size w w1 := ((Below.refl _ _).alloc (Nat.le_refl _) _).trans (hb1.mono (by simp))
    clear hb1 hs1
    go_wp2
    go_loopw [6] (fun i wx => i = .int .i64 0 ∧ wx = w1) (fun _ _ => 0)
    case atStart => exact ⟨rfl, rfl⟩
    case round =>
      obtain ⟨rfl, rfl⟩ := hrel
      go_wp2
      go_ret
      exact ⟨rfl, hbel1⟩

end Go.Proofs.Ybulkahtq
