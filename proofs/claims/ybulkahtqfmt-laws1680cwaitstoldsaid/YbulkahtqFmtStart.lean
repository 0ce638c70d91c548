/-
  THE RUN's START, on both roads: the driver, its graph, its network, its rules.
-/
import Derived.Test.YbulkahtqFmtSmall
namespace Go.Proofs.YbulkahtqFmt
open Go.RowKit Kit

abbrev drvRow (s : Nat) (orw : Bool) (N n1 m : Nat) : Obj := .cells #[.pointer (some ⟨s, 0, none⟩), .pointer (some ⟨N + 2, 0, none⟩), .bool orw, .pointer (some ⟨n1 + 2, 0, none⟩), .map (some m), .nilFunc, .nilIface] 74

/-- What holds of the world W when the driver stands. (w: the world at the run's beginning; d: the driver; m: the map of what was sent; nb: the network; r: the rules; g: the graph.) -/
structure Stands (w W : World) (R s : Nat) (orw : Bool) (g d m nb r : Nat) : Prop where
  rr : W.cell? ⟨R, 0, none⟩ = some (.pointer (some ⟨r, 0, none⟩))
  d0 : W.cell? ⟨d, 0, none⟩ = some (.pointer (some ⟨s, 0, none⟩))
  d1 : W.cell? ⟨d, 1, none⟩ = some (.pointer (some ⟨g, 0, none⟩))
  d2 : W.cell? ⟨d, 2, none⟩ = some (.bool orw)
  d3 : W.cell? ⟨d, 3, none⟩ = some (.pointer (some ⟨nb, 0, none⟩))
  d4 : W.cell? ⟨d, 4, none⟩ = some (.map (some m))
  d6 : W.cell? ⟨d, 6, none⟩ = some (.iface 34 (.pointer (some ⟨r, 0, none⟩)))
  net : W.cell? ⟨nb, 1, none⟩ = some (.slice none 0 0)
  rules : W.rowIs r 41 6 (rulesRow d (.slice none 0 0) (.slice none 0 0) (.slice none 0 0))
  sent : mapIs W Ybaf.prog 9 m 0 (fun _ => none)
  gr : W.heap[g]? = some (.cells #[.map (some w.heap.size), .map (some (w.heap.size + 1)), .int .i64 0, .int .i64 0, .slice none 0 0, .int .i64 0, .bool false, .slice none 0 0] 100)
  procs : W.heap[w.heap.size]? = some (.map #[] 0)
  waits : W.heap[w.heap.size + 1]? = some (.map #[] 0)
  upd : Upd w.heap.size [R] w W
  size : W.heap.size = r + 1
  ord : w.heap.size + 2 = g ∧ g < nb ∧ nb < m ∧ m < d ∧ d < r ∧ R < w.heap.size

theorem stands_mk {w w1 w2 w3 : World} {s R : Nat} {orw : Bool} (z1 : w1.heap.size = w.heap.size + 3) (b1 : Below w.heap.size w w1)
    (p1 : w1.heap[w.heap.size]? = some (.map #[] 0)) (q1 : w1.heap[w.heap.size + 1]? = some (.map #[] 0)) (g1 : w1.heap[w.heap.size + 2]? = some (.cells #[.map (some w.heap.size), .map (some (w.heap.size + 1)), .int .i64 0, .int .i64 0, .slice none 0 0, .int .i64 0, .bool false, .slice none 0 0] 100))
    (z2 : w2.heap.size = w1.heap.size + 3) (b2 : Below w1.heap.size w1 w2) (n2 : w2.cell? ⟨w1.heap.size + 2, 1, none⟩ = some (.slice none 0 0)) (lR : R < w.heap.size)
    (z3 : w3.heap.size = ((w2.alloc (.map #[] 0)).alloc (drvRow s orw w.heap.size w1.heap.size w2.heap.size)).heap.size + 1)
    (c3 : w3.cell? ⟨R, 0, none⟩ = some (.pointer (some ⟨((w2.alloc (.map #[] 0)).alloc (drvRow s orw w.heap.size w1.heap.size w2.heap.size)).heap.size, 0, none⟩)))
    (r3 : w3.rowIs ((w2.alloc (.map #[] 0)).alloc (drvRow s orw w.heap.size w1.heap.size w2.heap.size)).heap.size 41 6 (rulesRow (w2.heap.size + 1) (.slice none 0 0) (.slice none 0 0) (.slice none 0 0)))
    (u3 : Upd ((w2.alloc (.map #[] 0)).alloc (drvRow s orw w.heap.size w1.heap.size w2.heap.size)).heap.size [R] ((w2.alloc (.map #[] 0)).alloc (drvRow s orw w.heap.size w1.heap.size w2.heap.size)) w3) :
    Stands w (w3.setCell ⟨w2.heap.size + 1, 6, none⟩ (.iface 34 (.pointer (some ⟨w2.heap.size + 1 + 1, 0, none⟩)))) R s orw (w.heap.size + 2) (w2.heap.size + 1) w2.heap.size (w1.heap.size + 2) (w2.heap.size + 1 + 1) := by
  simp only [World.size_alloc] at z3 c3 r3 u3
  -- what the driver's world holds
  have hd : ((w2.alloc (.map #[] 0)).alloc (drvRow s orw w.heap.size w1.heap.size w2.heap.size)).heap[w2.heap.size + 1]? = some (drvRow s orw w.heap.size w1.heap.size w2.heap.size) := by
    have := blk_new (w2.alloc (.map #[] 0)) (drvRow s orw w.heap.size w1.heap.size w2.heap.size)
    simpa only [World.size_alloc] using this
  have hm : ((w2.alloc (.map #[] 0)).alloc (drvRow s orw w.heap.size w1.heap.size w2.heap.size)).heap[w2.heap.size]? = some (.map #[] 0) := by
    rw [blk_old _ _ (by simp)]; exact blk_new _ _
  have old : ∀ b, b < w2.heap.size → ((w2.alloc (.map #[] 0)).alloc (drvRow s orw w.heap.size w1.heap.size w2.heap.size)).heap[b]? = w2.heap[b]? := fun b hb => by
    rw [blk_old _ _ (by simp; omega), blk_old _ _ hb]
  have h3 : ∀ b, b ≠ R → b < w2.heap.size + 1 + 1 → w3.heap[b]? = ((w2.alloc (.map #[] 0)).alloc (drvRow s orw w.heap.size w1.heap.size w2.heap.size)).heap[b]? := fun b hb hl => u3.block b hl (by simpa using hb)
  have h5 : ∀ b, b ≠ w2.heap.size + 1 → (w3.setCell ⟨w2.heap.size + 1, 6, none⟩ (.iface 34 (.pointer (some ⟨w2.heap.size + 1 + 1, 0, none⟩)))).heap[b]? = w3.heap[b]? := fun b hb => Below.heap_setCell _ _ _ _ hb
  have hd3 : w3.rowIs (w2.heap.size + 1) 74 7 (fun i => (#[.pointer (some ⟨s, 0, none⟩), .pointer (some ⟨w.heap.size + 2, 0, none⟩), .bool orw, .pointer (some ⟨w1.heap.size + 2, 0, none⟩), .map (some w2.heap.size), .nilFunc, .nilIface] : Array Value).getD i undef) := by
    refine ⟨_, (h3 _ (by omega) (by omega)).trans hd, rfl, fun i hi => ?_⟩
    match i, hi with
    | 0, _ => rfl
    | 1, _ => rfl
    | 2, _ => rfl
    | 3, _ => rfl
    | 4, _ => rfl
    | 5, _ => rfl
    | 6, _ => rfl
  have hd5 := hd3.set 6 (.iface 34 (.pointer (some ⟨w2.heap.size + 1 + 1, 0, none⟩)))
  refine ⟨?_, hd5.cell (i := 0) (by omega), hd5.cell (i := 1) (by omega), hd5.cell (i := 2) (by omega), hd5.cell (i := 3) (by omega), hd5.cell (i := 4) (by omega), hd5.cell (i := 6) (by omega), ?_, ?_, ?_, ?_, ?_, ?_, ?_, ?_, ⟨rfl, by omega, by omega, by omega, by omega, lR⟩⟩
  · rw [World.cell?_of_block (w := w3) (h5 R (by omega))]; exact c3
  · rw [World.cell?_of_block (w := w2) ((h5 (w1.heap.size + 2) (by omega)).trans ((h3 _ (by omega) (by omega)).trans (old _ (by omega))))]; exact n2
  · exact r3.of_block (h5 _ (by omega))
  · exact (mapIs_made w2 Ybaf.prog 9).of_block ((h5 _ (by omega)).trans ((h3 _ (by omega) (by omega)).trans (hm.trans (blk_new _ _).symm)))
  · exact (h5 _ (by omega)).trans ((h3 _ (by omega) (by omega)).trans ((old _ (by omega)).trans ((b2.block _ (by omega)).trans g1)))
  · exact (h5 _ (by omega)).trans ((h3 _ (by omega) (by omega)).trans ((old _ (by omega)).trans ((b2.block _ (by omega)).trans p1)))
  · exact (h5 _ (by omega)).trans ((h3 _ (by omega) (by omega)).trans ((old _ (by omega)).trans ((b2.block _ (by omega)).trans q1)))
  · have bW : Below w.heap.size w ((w2.alloc (.map #[] 0)).alloc (drvRow s orw w.heap.size w1.heap.size w2.heap.size)) := ((b1.trans (b2.mono (by omega))).alloc (by omega) _).alloc (by simp; omega) _
    exact ((Upd.of_below bW).trans (u3.mono (by omega) (fun _ _ h => h))).trans (Upd.of_set _ _ _ (.inr (by simp only; omega)))
  · simp [World.setCell, z3]

end Go.Proofs.YbulkahtqFmt
