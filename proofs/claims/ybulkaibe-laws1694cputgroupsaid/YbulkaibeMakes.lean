/-
  THE SLICES that the law makes.
-/
import Derived.Test.YbulkaibeLoop4
import Derived.Laws.MakeOwn
namespace Go.Proofs.Ybulkaibe
open Go.RowKit Go.WideMaps Go.Maps Kit

theorem Yba.info2 : (Yba.prog.info? 2).map (fun i => (i.zero, i.size, i.bytes)) = some (some (.int .i64 0), 1, 8) := by kernel_rfl

theorem make50 (k : Nat) (hk : k ≤ 1024) (w : World) : (Instr.makeSlice 50 (.int .i64 (k : Nat)) (.int .i64 (k : Nat))).run Yba.prog w = .ok (.slice (some ⟨w.heap.size, 0, none⟩) k k) (w.alloc (.cells (madeCells #[.int .i64 0] k) 3)) := by
  obtain ⟨i, hi, hz, hs, hb⟩ := info_parts Yba.info3
  have := run_makeSlice (P := Yba.prog) w 50 3 i (.int .i64 0) Yba.underlying50 hi hz .i64 .i64 (k : Nat) (k : Nat) (by omega) (Int.le_refl _) (by rw [hs]; simp; omega) (by rw [hb]; omega) (by omega)
  rw [hs] at this
  simp only [Int.toNat_natCast, Nat.mul_one] at this
  exact this
theorem make51 (k : Nat) (hk : k ≤ 1024) (w : World) : (Instr.makeSlice 51 (.int .i64 (k : Nat)) (.int .i64 (k : Nat))).run Yba.prog w = .ok (.slice (some ⟨w.heap.size, 0, none⟩) k k) (w.alloc (.cells (madeCells #[.int .i64 0] k) 2)) := by
  obtain ⟨i, hi, hz, hs, hb⟩ := info_parts Yba.info2
  have := run_makeSlice (P := Yba.prog) w 51 2 i (.int .i64 0) Yba.underlying51 hi hz .i64 .i64 (k : Nat) (k : Nat) (by omega) (Int.le_refl _) (by rw [hs]; simp; omega) (by rw [hb]; omega) (by omega)
  rw [hs] at this
  simp only [Int.toNat_natCast, Nat.mul_one] at this
  exact this
theorem make50z (k : Nat) (hk : k ≤ 1024) (w : World) : (Instr.makeSlice 50 (.int .i64 0) (.int .i64 (k : Nat))).run Yba.prog w = .ok (.slice (some ⟨w.heap.size, 0, none⟩) 0 k) (w.alloc (.cells (madeCells #[.int .i64 0] k) 3)) := by
  obtain ⟨i, hi, hz, hs, hb⟩ := info_parts Yba.info3
  have := run_makeSlice (P := Yba.prog) w 50 3 i (.int .i64 0) Yba.underlying50 hi hz .i64 .i64 0 (k : Nat) (by omega) (by omega) (by rw [hs]; simp; omega) (by rw [hb]; omega) (by omega)
  rw [hs] at this
  simp only [Int.toNat_natCast, Nat.mul_one, Int.toNat_zero] at this
  exact this
theorem make54z (k : Nat) (hk : k ≤ 1024) (w : World) : (Instr.makeSlice 54 (.int .i64 0) (.int .i64 (k : Nat))).run Yba.prog w = .ok (.slice (some ⟨w.heap.size, 0, none⟩) 0 k) (w.alloc (.cells (madeCells #[.string ByteArray.empty] k) 9)) := by
  obtain ⟨i, hi, hz, hs, hb⟩ := info_parts Yba.info9
  have := run_makeSlice (P := Yba.prog) w 54 9 i (.string ByteArray.empty) Yba.underlying54 hi hz .i64 .i64 0 (k : Nat) (by omega) (by omega) (by rw [hs]; simp; omega) (by rw [hb]; omega) (by omega)
  rw [hs] at this
  simp only [Int.toNat_natCast, Nat.mul_one, Int.toNat_zero] at this
  exact this
theorem made_at (v : Value) (k q : Nat) (h : q < k) : (madeCells #[v] k)[q]? = some v := by
  simp [madeCells, h, Nat.mod_one]
/-- A row of zeros, newly made. -/
theorem row_made {w : World} {b k : Nat} {t : TypeId} (h : w.heap[b]? = some (.cells (madeCells #[.int .i64 0] k) t (0, 0))) : Row w b k (fun _ => 0) := ⟨_, t, h, fun _ hq => made_at _ _ _ hq⟩

end Go.Proofs.Ybulkaibe
