/-
  THE WALK of the law's own rules' 'initiate': 'r.inits = append(r.inits, p); r.d.sent[p]++'.
-/
import Derived.Test.YbulkahtqFmtStart
import Derived.Maps.AppendAt
import Derived.Maps.OwnOps
namespace Go.Proofs.YbulkahtqFmt
open Go.RowKit Go.WideMaps Go.Maps Kit

theorem Ybaf.info9 : (Ybaf.prog.info? 9).map (fun i => (i.zero, i.size, i.bytes)) = some (some (.string ByteArray.empty), 1, 16) := by kernel_rfl
theorem law9 : Maps.Keyed Ybaf.prog 9 := Maps.string_keyed Ybaf.underlying9
theorem zero3 (w : World) : (zeroValue 3).run Ybaf.prog w = .ok (.int .i64 0) w := by kernel_rfl

theorem own_slice {w : World} {base : Nat} {e : TypeId} {size : Nat} {v : Value} {n : Nat} {xs : List Value} (h : w.ownsRow base e size v n xs) : ∃ a c, v = .slice a n c := by
  rcases h.2 with ⟨rfl, rfl⟩ | ⟨g, cap, cur, rfl, _⟩
  · exact ⟨_, _, rfl⟩
  · exact ⟨_, _, rfl⟩

theorem own_of_block {w w' : World} {base : Nat} {e : TypeId} {size : Nat} {v : Value} {n : Nat} {xs : List Value} (h : w.ownsRow base e size v n xs) (hb : ∀ g, v.ownBlock = some g → w'.heap[g]? = w.heap[g]?) : w'.ownsRow base e size v n xs := by
  refine ⟨h.1, ?_⟩
  rcases h.2 with h2 | ⟨g, cap, cur, rfl, h1, h2, h3⟩
  · exact .inl h2
  · exact .inr ⟨g, cap, cur, rfl, h1, (hb g rfl).trans h2, h3⟩

/-- The key of a string. -/
abbrev keyL (p : ByteArray) : Lit := .string p.data.toList
theorem key_is {p : ByteArray} (h : p.size ≤ maxLen) : keyOf Ybaf.prog 9 (.string p) = some (keyL p) := keyOf_string_mk Ybaf.underlying9 h
theorem keyL_is (p : ByteArray) : WideAt.IsKeyLit (keyL p) := trivial

set_option maxHeartbeats 1000000 in
theorem initiate_any (r d m base k c0 : Nat) (a0 : Option Addr) (p : ByteArray) (ch en : Value) (xs : List Value) (f : Lit → Option Value) (c : Int) (w : World)
    (hr : w.rowIs r 41 6 (rulesRow d (.slice a0 k c0) ch en)) (hd : w.cell? ⟨d, 4, none⟩ = some (.map (some m)))
    (hown : w.ownsRow base 9 1 (.slice a0 k c0) k xs) (hm : mapIs w Ybaf.prog 9 m k f) (hrb : r < base) (hmb : m < base) (hdb : d < base) (hrm : r ≠ m) (hrd : r ≠ d) (hbase : base ≤ w.heap.size)
    (hp : p.size ≤ maxLen) (hk : k ≤ 1024) (hf : (f (keyL p)).getD (.int .i64 0) = .int .i64 c) (hc0 : 0 ≤ c) (hc1 : c ≤ 1024) :
    Calls Ybaf.prog 101 #[.pointer (some ⟨r, 0, none⟩), .string p] w fun e w' => e = .returned (.tuple #[]) ∧ ∃ a1 c1, w'.rowIs r 41 6 (rulesRow d (.slice a1 (k + 1) c1) ch en) ∧ w'.ownsRow base 9 1 (.slice a1 (k + 1) c1) (k + 1) (xs ++ [.string p]) ∧
      mapIs w' Ybaf.prog 9 m (k + 1) (upd f (keyL p) (some (.int .i64 (c + 1)))) ∧ Upd base [r, m] w w' := by
  obtain ⟨i0, hi, hz0, hz1, hz2⟩ := info_parts Ybaf.info9
  have hr0 : w.cell? ⟨r, 0, none⟩ = some (.pointer (some ⟨d, 0, none⟩)) := hr.cell (i := 0) (by omega)
  have hr1 : w.cell? ⟨r, 1, none⟩ = some (.slice a0 k c0) := hr.cell (i := 1) (by omega)
  have hrl := hr.lt
  go_enter Ybaf.func101, Ybaf.ntmps101
  go_wp2_with (first
    | (at_builtin; refine wpList_append_own _ rfl _ _ 33 rfl base 9 i0 (.string ByteArray.empty) 1 16 Ybaf.underlying33 hi hz0 hz1 hz2 rfl (by decide) _ _ _ rfl (hown.alloc _) ⟨w.heap.size, 0, none⟩ 1 1 [.string p] rfl rfl (cell_one_new _ _ _) (by simp [Value.oneCell']) (by unfold maxLen; omega) (by omega) (by simp; omega) ?_))
  intro v' w1 hown' hgrow _
  obtain ⟨a1, c1, rfl⟩ := own_slice hown'
  have hblk : ∀ b, b < base → w1.heap[b]? = w.heap[b]? := fun b hb => by
    rw [hgrow.block b (by simp; omega) (fun e => by
      rcases hown.2 with ⟨h1, _⟩ | ⟨g, cap, cur, h1, h2, _⟩
      · rw [h1] at e; cases e
      · rw [h1] at e; simp only [Value.ownBlock, Option.some.injEq] at e; omega), blk_old _ _ (by omega)]
  have hrow1 := hr.of_block (hblk r hrb)
  have q0 : w1.cell? ⟨r, 0, none⟩ = some (.pointer (some ⟨d, 0, none⟩)) := hrow1.cell (i := 0) (by omega)
  have q1 : w1.cell? ⟨r, 1, none⟩ = some (.slice a0 k c0) := hrow1.cell (i := 1) (by omega)
  have qf := hrow1.frozen 1
  have hd1 : (w1.setCell ⟨r, 1, none⟩ (.slice a1 (k + 1) c1)).cell? ⟨d, 4, none⟩ = some (.map (some m)) := by
    rw [World.cell?_of_block (w := w1) (Below.heap_setCell _ _ _ _ (by simp only; omega)), World.cell?_of_block (w := w) (hblk d hdb)]; exact hd
  have hm1 : mapIs (w1.setCell ⟨r, 1, none⟩ (.slice a1 (k + 1) c1)) Ybaf.prog 9 m k f := hm.of_block ((Below.heap_setCell _ _ _ _ (by simp only; omega)).trans (hblk m hmb))
  have hu1 : Upd base [r, m] w (w1.setCell ⟨r, 1, none⟩ (.slice a1 (k + 1) c1)) := by
    have hz := hgrow.size
    simp only [World.size_alloc] at hz
    refine Upd.trans (w' := w1) ⟨hgrow.os, hgrow.tape, hgrow.output, by omega, fun b hb _ => hblk b hb⟩ (Upd.of_set _ _ _ (.inl (by simp)))
  have ho1 : (w1.setCell ⟨r, 1, none⟩ (.slice a1 (k + 1) c1)).ownsRow base 9 1 (.slice a1 (k + 1) c1) (k + 1) (xs ++ [.string p]) := own_of_block hown' (fun g hg => Below.heap_setCell _ _ _ _ (by
      have := (hown'.lt g hg).1
      simp only; omega))
  have hR1 : (w1.setCell ⟨r, 1, none⟩ (.slice a1 (k + 1) c1)).rowIs r 41 6 (rulesRow d (.slice a1 (k + 1) c1) ch en) := (hrow1.set 1 _).congr (fun i hi => by
    match i, hi with
    | 0, _ => rfl
    | 1, _ => rfl
    | 2, _ => rfl
    | 3, _ => rfl
    | 4, _ => rfl
    | 5, _ => rfl)
  clear hown' hown hgrow hblk hrow1 hr hm hd hr0 hr1
  go_wp2_with (first
    | (at_lookup; refine wpList_look_is _ rfl _ _ 71 rfl 9 3 law9 Ybaf.underlying71 (zero3 _) rfl hm1 rfl (key_is hp) ?_)
    | (at_mapUpdate; refine wpList_put_is _ rfl _ _ _ 71 rfl 9 3 law9 Ybaf.underlying71 rfl hm1 (by unfold maxLen; omega) rfl rfl (key_is hp) (keyL_is p) ?_; intro w2 hm2 ht2))
  go_end0
  refine ⟨rfl, a1, c1, ?_, ?_, hm2, hu1.trans (Upd.of_turned ht2 (.inl (by simp)))⟩
  · exact hR1.of_block (turned_block ht2 hrm)
  · exact own_of_block ho1 (fun g hg => turned_block ht2 (by have := (ho1.lt g hg).1; omega))

end Go.Proofs.YbulkahtqFmt
