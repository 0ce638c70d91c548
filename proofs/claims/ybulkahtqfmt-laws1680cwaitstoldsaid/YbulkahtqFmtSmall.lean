/-
  THE WALKS of the small functions on both roads.
-/
import Derived.Test.YbulkahtqFmtProg
import Derived.Test.YbulkahtqFmtKit
import Derived.KernelRfl
namespace Go.Proofs.YbulkahtqFmt
open Go.RowKit Kit

set_option maxHeartbeats 400000 in
theorem drive_any (fn : Fn) (x y : Array Value) (a : Option Addr) (l c : Nat) (w : World) :
    Calls Ybaf.prog 10 #[.func fn x y, .slice a l c] w fun e w' => e = .returned (.func (.func 22) #[] #[.pointer (some ⟨w.heap.size, 0, none⟩), .pointer (some ⟨w.heap.size + 1, 0, none⟩)]) ∧ w' = (w.alloc (.cells #[.func fn x y] 42)).alloc (.cells #[.slice a l c] 33) := by
  go_enter Ybaf.func10, Ybaf.ntmps10
  go_wp2
  go_ret
  exact ⟨rfl, rfl⟩

set_option maxHeartbeats 400000 in
theorem new_any (w : World) :
    Calls Ybaf.prog 23 #[] w fun e w' => e = .returned (.pointer (some ⟨w.heap.size + 2, 0, none⟩)) ∧ w' = ((w.alloc (.map #[] 0)).alloc (.map #[] 0)).alloc (.cells #[.map (some w.heap.size), .map (some (w.heap.size + 1)), .int .i64 0, .int .i64 0, .slice none 0 0, .int .i64 0, .bool false, .slice none 0 0] 100) := by
  have hmm := @run_makeMap Ybaf.prog
  go_enter Ybaf.func23, Ybaf.ntmps23
  go_wp2
  go_ret
  exact ⟨rfl, rfl⟩

set_option maxHeartbeats 400000 in
theorem pcg_any (s t : Int) (w : World) :
    Calls Ybaf.prog 36 #[.int .u64 s, .int .u64 t] w fun e w' => e = .returned (.pointer (some ⟨w.heap.size, 0, none⟩)) ∧ w' = w.alloc (.cells #[.int .u64 s, .int .u64 t] 160) := by
  go_enter Ybaf.func36, Ybaf.ntmps36
  go_wp2
  go_ret
  exact ⟨rfl, rfl⟩

set_option maxHeartbeats 400000 in
theorem net_any (s : Int) (w : World) :
    Calls Ybaf.prog 24 #[.int .u64 s] w fun e w' => e = .returned (.pointer (some ⟨w.heap.size + 2, 0, none⟩)) ∧ w' = ((w.alloc (.map #[] 0)).alloc (.cells #[.int .u64 s, .int .u64 0] 160)).alloc (.cells #[.map (some w.heap.size), .slice none 0 0, .slice none 0 0, .pointer (some ⟨w.heap.size + 1, 0, none⟩)] 118) := by
  have hmm := @run_makeMap Ybaf.prog
  go_enter Ybaf.func24, Ybaf.ntmps24
  go_wp2_with (go_at_call 36; refine (pcg_any _ _ _).mono ?_; rintro e w' ⟨rfl, rfl⟩)
  go_ret
  exact ⟨rfl, rfl⟩

set_option maxHeartbeats 400000 in
theorem next_none (b c : Nat) (w : World) (h : w.cell? ⟨b, 1, none⟩ = some (.slice none 0 c)) :
    Calls Ybaf.prog 27 #[.pointer (some ⟨b, 0, none⟩)] w fun e w' => e = .returned (.tuple #[.int .i64 0, .bool false]) ∧ w' = w := by
  go_enter Ybaf.func27, Ybaf.ntmps27
  go_wp2
  go_ret2
  exact ⟨rfl, rfl⟩

theorem blk_new (w : World) (o : Obj) : (w.alloc o).heap[w.heap.size]? = some o := by
  show (w.heap.push o)[w.heap.size]? = _
  simp
theorem blk_old (w : World) (o : Obj) {b : Nat} (h : b < w.heap.size) : (w.alloc o).heap[b]? = w.heap[b]? := Below.heap_alloc w o b h

/-- waitgraph.New: two maps and the graph, behind one another. -/
theorem new_is (w : World) : Calls Ybaf.prog 23 #[] w fun e w' => e = .returned (.pointer (some ⟨w.heap.size + 2, 0, none⟩)) ∧ w'.heap.size = w.heap.size + 3 ∧ Below w.heap.size w w' ∧
    w'.heap[w.heap.size]? = some (.map #[] 0) ∧ w'.heap[w.heap.size + 1]? = some (.map #[] 0) ∧ w'.heap[w.heap.size + 2]? = some (.cells #[.map (some w.heap.size), .map (some (w.heap.size + 1)), .int .i64 0, .int .i64 0, .slice none 0 0, .int .i64 0, .bool false, .slice none 0 0] 100) := by
  refine (new_any w).mono ?_
  rintro e w' ⟨rfl, rfl⟩
  have e1 := blk_new w (.map #[] 0)
  have e2 := blk_new (w.alloc (.map #[] 0)) (.map #[] 0)
  have e3 := blk_new ((w.alloc (.map #[] 0)).alloc (.map #[] 0)) (.cells #[.map (some w.heap.size), .map (some (w.heap.size + 1)), .int .i64 0, .int .i64 0, .slice none 0 0, .int .i64 0, .bool false, .slice none 0 0] 100)
  simp only [World.size_alloc] at e2 e3
  refine ⟨rfl, by simp, (((Below.refl _ _).alloc (Nat.le_refl _) _).alloc (by simp) _).alloc (by simp; omega) _, ?_, ?_, e3⟩
  · rw [blk_old _ _ (by simp; omega), blk_old _ _ (by simp)]; exact e1
  · rw [blk_old _ _ (by simp)]; exact e2

/-- newNetwork: its block is the third; no channel holds a message. -/
theorem net_is (s : Int) (w : World) : Calls Ybaf.prog 24 #[.int .u64 s] w fun e w' => e = .returned (.pointer (some ⟨w.heap.size + 2, 0, none⟩)) ∧ w'.heap.size = w.heap.size + 3 ∧ Below w.heap.size w w' ∧
    w'.cell? ⟨w.heap.size + 2, 1, none⟩ = some (.slice none 0 0) := by
  refine (net_any s w).mono ?_
  rintro e w' ⟨rfl, rfl⟩
  refine ⟨rfl, by simp, (((Below.refl _ _).alloc (Nat.le_refl _) _).alloc (by simp) _).alloc (by simp; omega) _, ?_⟩
  have e3 := blk_new ((w.alloc (.map #[] 0)).alloc (.cells #[.int .u64 s, .int .u64 0] 160)) (.cells #[.map (some w.heap.size), .slice none 0 0, .slice none 0 0, .pointer (some ⟨w.heap.size + 1, 0, none⟩)] 118)
  simp only [World.size_alloc] at e3
  exact cell_of_blk e3 rfl

set_option maxHeartbeats 400000 in
theorem rulesOf_any (d r : Nat) (w : World) (v : Value) (h : w.cell? ⟨r, 0, none⟩ = some v) (hz : w.frozen? ⟨r, 0, none⟩ = false) :
    Calls Ybaf.prog 9 #[.pointer (some ⟨d, 0, none⟩), .pointer (some ⟨r, 0, none⟩)] w fun e w' => e = .returned (.iface 34 (.pointer (some ⟨w.heap.size, 0, none⟩))) ∧
      w' = (w.setCell ⟨r, 0, none⟩ (.pointer (some ⟨w.heap.size, 0, none⟩))).alloc (.cells #[.pointer (some ⟨d, 0, none⟩), .slice none 0 0, .int .i64 0, .slice none 0 0, .slice none 0 0, .int .i64 0] 41) := by
  have hr := cell_lt h
  go_enter Ybaf.func9, Ybaf.ntmps9
  go_wp2
  go_ret
  exact ⟨rfl, rfl⟩

/-- The rules' row: the driver, the initiated, how many received, the changes, what ended, the basics. -/
def rulesRow (d : Nat) (inits changes ended : Value) (i : Nat) : Value :=
  match i with
  | 0 => .pointer (some ⟨d, 0, none⟩)
  | 1 => inits
  | 3 => changes
  | 4 => ended
  | _ => .int .i64 0

theorem rules_new (w : World) (d : Nat) : (w.alloc (.cells #[.pointer (some ⟨d, 0, none⟩), .slice none 0 0, .int .i64 0, .slice none 0 0, .slice none 0 0, .int .i64 0] 41)).rowIs w.heap.size 41 6 (rulesRow d (.slice none 0 0) (.slice none 0 0) (.slice none 0 0)) := by
  refine ⟨_, blk_new _ _, rfl, fun i hi => ?_⟩
  match i, hi with
  | 0, _ => rfl
  | 1, _ => rfl
  | 2, _ => rfl
  | 3, _ => rfl
  | 4, _ => rfl
  | 5, _ => rfl

theorem rulesOf_is (d r : Nat) (w : World) (v : Value) (h : w.cell? ⟨r, 0, none⟩ = some v) (hz : w.frozen? ⟨r, 0, none⟩ = false) :
    Calls Ybaf.prog 9 #[.pointer (some ⟨d, 0, none⟩), .pointer (some ⟨r, 0, none⟩)] w fun e w' => e = .returned (.iface 34 (.pointer (some ⟨w.heap.size, 0, none⟩))) ∧ w'.heap.size = w.heap.size + 1 ∧
      w'.cell? ⟨r, 0, none⟩ = some (.pointer (some ⟨w.heap.size, 0, none⟩)) ∧ w'.rowIs w.heap.size 41 6 (rulesRow d (.slice none 0 0) (.slice none 0 0) (.slice none 0 0)) ∧ Upd w.heap.size [r] w w' := by
  have hr := cell_lt h
  refine (rulesOf_any d r w v h hz).mono ?_
  rintro e w' ⟨rfl, rfl⟩
  have hs : (w.setCell ⟨r, 0, none⟩ (.pointer (some ⟨w.heap.size, 0, none⟩))).heap.size = w.heap.size := by simp [World.setCell]
  refine ⟨rfl, by simp, ?_, ?_, ?_⟩
  · rw [((Below.refl w.heap.size (w.setCell ⟨r, 0, none⟩ (.pointer (some ⟨w.heap.size, 0, none⟩)))).alloc (by rw [hs]; exact Nat.le_refl _) _).cell (by exact hr)]
    exact World.cell?_setCell_same _ _ _ h
  · have := rules_new (w.setCell ⟨r, 0, none⟩ (.pointer (some ⟨w.heap.size, 0, none⟩))) d
    rw [hs] at this; exact this
  · exact (Upd.of_set _ _ _ (.inl (by simp))).trans (Upd.of_alloc _ (by rw [hs]; exact Nat.le_refl _))

end Go.Proofs.YbulkahtqFmt
