/-
  MAPS OF ONE ENTRY, at the key "cap": what a room is, what a package weighs.
-/
import Derived.Test.YbulkaibeProg
import Derived.Test.YbulkaibeKit
import Derived.KernelRfl
import Derived.Maps.RangeRun
namespace Go.Proofs.Ybulkaibe
open Go.RowKit Go.WideMaps Go.Maps Kit
open Go.ChangeMaps (setBlock heap_setBlock_other)

abbrev cap : ByteArray := ⟨#[99, 97, 112]⟩
abbrev oneMap (v : Int) : Obj := .map #[{ key := .string cap, val := .int .i64 v, born := 0 }] 1

theorem law9 : Maps.Keyed Yba.prog 9 := Maps.string_keyed Yba.underlying9
theorem key_is {p : ByteArray} (h : p.size ≤ maxLen) : keyOf Yba.prog 9 (.string p) = some (keyL p) := keyOf_string_mk Yba.underlying9 h

theorem find_one (v : Int) (w : World) : (Instr.findKey 9 (.string cap) [{ key := .string cap, val := .int .i64 v, born := 0 }]).run Yba.prog w = .ok (some (0, .int .i64 v)) w := by kernel_rfl
theorem check_one (b : Bool) (w : World) : (Instr.checkKey b 10000 9 (.string cap)).run Yba.prog w = .ok () w := law9.check w b (key_is (by decide))

section
variable {w : World} {b r : Nat} {v : Int}

theorem look_one (h : w.heap[b]? = some (oneMap v)) {t : TypeId} (ht : Yba.prog.underlying t = some (.map 9 46)) : (Instr.lookup t (.map (some b)) (.string cap) false).run Yba.prog w = .ok (.int .i64 v) w := by
  simp [Instr.lookup, run_underlying ht, MapKept.run_getObj_map h, check_one, find_one, Result.andThen]
theorem look_one_ok (h : w.heap[b]? = some (oneMap v)) {t : TypeId} (ht : Yba.prog.underlying t = some (.map 9 46)) : (Instr.lookup t (.map (some b)) (.string cap) true).run Yba.prog w = .ok (.tuple #[.int .i64 v, .bool true]) w := by
  simp [Instr.lookup, run_underlying ht, MapKept.run_getObj_map h, check_one, find_one, Result.andThen]
theorem put_one (h : w.heap[b]? = some (oneMap v)) {t : TypeId} (ht : Yba.prog.underlying t = some (.map 9 46)) (v' : Int) : (Instr.mapUpdate t (.map (some b)) (.string cap) (.int .i64 v')).run Yba.prog w = .ok () (setBlock w b (oneMap v')) := by
  simp [Instr.mapUpdate, run_underlying ht, MapKept.run_getObj_map h, check_one, find_one, Result.andThen]
  have hk : (Instr.keyThatStays (.string cap) (.string cap)).run Yba.prog w = .ok (.string cap) w := by kernel_rfl
  rw [hk]
  simp [setObj, Sem.run, h, setBlock]
theorem range_one (h : w.heap[b]? = some (oneMap v)) {t : TypeId} (ht : Yba.prog.underlying t = some (.map 9 46)) : (Instr.range t (.map (some b))).run Yba.prog w = .ok (.pointer (some ⟨w.heap.size, 0, none⟩)) (w.alloc (.mapIter (some b) 1 #[] 1)) := run_range_map w t 9 46 b _ 1 ht h
theorem next_first (h : w.heap[b]? = some (oneMap v)) (hr : w.heap[r]? = some (.mapIter (some b) 1 #[] 1)) (ty : TypeId) : (Instr.next (.pointer (some ⟨r, 0, none⟩)) false ty).run Yba.prog w = .ok (.tuple #[.bool true, .string cap, .int .i64 v]) (setBlock w r (.mapIter (some b) 1 #[0] 1)) := by
  simp [Instr.next, getObj, Sem.run, hr, h, Result.andThen, choose, Question.forced, run_setObj_at hr]
theorem next_last (h : w.heap[b]? = some (oneMap v)) (hr : w.heap[r]? = some (.mapIter (some b) 1 #[0] 1)) (ty : TypeId) : (Instr.next (.pointer (some ⟨r, 0, none⟩)) false ty).run Yba.prog w = .ok (.tuple #[.bool false]) w := by
  simp [Instr.next, getObj, Sem.run, hr, h, Result.andThen, choose, Question.forced]
theorem entry_one (h : w.heap[b]? = some (oneMap v)) (hr : w.heap[r]? = some (.mapIter (some b) 1 #[0] 1)) : (Instr.entry (.pointer (some ⟨r, 0, none⟩))).run Yba.prog w = .ok (.tuple #[.string cap, .int .i64 v]) w := by
  simp [Instr.entry, getObj, Sem.run, hr, h, Result.andThen]
end

end Go.Proofs.Ybulkaibe
