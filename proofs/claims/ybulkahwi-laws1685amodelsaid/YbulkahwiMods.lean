/-
  THE WALKS: equality of two slices of strings; the modules as the law makes them.
-/
import Derived.Test.YbulkahwiExpect
namespace Go.Proofs.Ybulkahwi
open Go.RowKit Go.Deep

theorem Outs.at_ {base : Nat} {w : World} {a : Option Addr} {n c : Nat} {ss : List ByteArray} (h : Outs base w a n c ss) (hn : 0 < n) : ∃ g, a = some ⟨g, 0, none⟩ ∧ g < w.heap.size ∧ ∀ i, i < n → w.cell? ⟨g, i, none⟩ = some (.string (ss.getD i ByteArray.empty)) := by
  rcases h.own.2 with ⟨_, h0⟩ | ⟨g, cap, cur, he, _⟩
  · omega
  · simp only [Value.slice.injEq] at he
    obtain ⟨rfl, _, rfl⟩ := he
    refine ⟨g, rfl, (h.own.lt g rfl).2, fun i hi => ?_⟩
    have hi2 : i < ss.length := by rw [h.len]; exact hi
    rw [h.own.cellAt i (by omega)]
    simp [strV, hi2]

set_option maxHeartbeats 1000000 in
theorem eq_any (b0 b1 : Nat) (a0 a1 : Option Addr) (n c0 c1 : Nat) (ss : List ByteArray) (w : World) (hn : n ≤ 4096) (h0 : Outs b0 w a0 n c0 ss) (h1 : Outs b1 w a1 n c1 ss) :
    Calls Yba.prog 7 #[.slice a0 n c0, .slice a1 n c1] w fun e w' => e = .returned (.bool true) ∧ Below w.heap.size w w' := by
  have hnil := fun w a l c => Lib.run_eql_slice_nil (P := Yba.prog) w 25 9 a l c 0 0 Yba.underlying25
  by_cases hz : n = 0
  · have hs : ss = [] := List.eq_nil_of_length_eq_zero (by rw [h0.len]; exact hz)
    obtain ⟨rfl, rfl⟩ := h0.nil hs
    obtain ⟨rfl, rfl⟩ := h1.nil hs
    subst hz
    clear h0 h1 hs
    go_enter Yba.func7, Yba.ntmps7
    go_wp2
    refine wp_loop_rounds 1 ?_
    rw [rounds_succ]
    go_wp2
    go_ret
    exact ⟨rfl, Below.refl _ _⟩
  · obtain ⟨g0, rfl, hg0, hc0⟩ := h0.at_ (by omega)
    obtain ⟨g1, rfl, hg1, hc1⟩ := h1.at_ (by omega)
    clear h0 h1
    go_enter Yba.func7, Yba.ntmps7
    go_wp2
    go_loopw [5] (fun i wx => ∃ k : Nat, k ≤ n ∧ i = .int .i64 k ∧ Below w.heap.size w wx) (fun i _ => n - (intOf i).toNat)
    case atStart => exact ⟨0, Nat.zero_le _, rfl, Below.refl _ _⟩
    case round =>
      obtain ⟨k, hk, rfl, hbel⟩ := hrel
      by_cases hkn : k < n
      · have q0 := (hbel.cell (p := ⟨g0, k, none⟩) hg0).trans (hc0 k hkn)
        have q1 := (hbel.cell (p := ⟨g1, k, none⟩) hg1).trans (hc1 k hkn)
        clear hc0 hc1
        generalize ss.getD k ByteArray.empty = p at q0 q1
        go_wp2
        go_quiet (fail)
        go_wp2
        go_roundw
        case rel => exact ⟨k + 1, by omega, by go_num, below_drewN hbel _⟩
        case measure => simp [intOf]; omega
      · go_wp2
        go_ret
        exact ⟨rfl, hbel⟩

/-- A slice of modules that came in. -/
structure MIn (B : Nat) (w : World) (a : Option Addr) (n : Nat) (ps vs : List ByteArray) : Prop where
  len : ps.length = n
  lev : vs.length = n
  at_ : 0 < n → ∃ b off, a = some ⟨b, off, none⟩ ∧ b < B ∧ ∀ i, i < n → w.cell? ⟨b, off + i * 2, none⟩ = some (.string (ps.getD i ByteArray.empty)) ∧ w.cell? ⟨b, off + i * 2 + 1, none⟩ = some (.string (vs.getD i ByteArray.empty))
  sz : ∀ i, (ps.getD i ByteArray.empty).size ≤ 140737488351232

theorem Yba.info30 : (Yba.prog.info? 30).map (fun i => (i.zero, i.size, i.bytes)) = some (some (.agg #[.string ByteArray.empty, .string ByteArray.empty]), 2, 32) := by kernel_rfl

/-- The row of the modules, the first k of them laid. -/
def modRow (ps vs : List ByteArray) (k j : Nat) : Value := if j < k * 2 then (if j % 2 = 0 then .string (ps.getD (j / 2) ByteArray.empty) else .string (vs.getD (j / 2) ByteArray.empty)) else .string ByteArray.empty
theorem modRow_step (ps vs : List ByteArray) (k j : Nat) : (if j = k * 2 + 1 then Value.string (vs.getD k ByteArray.empty) else if j = k * 2 then .string (ps.getD k ByteArray.empty) else modRow ps vs k j) = modRow ps vs (k + 1) j := by
  unfold modRow
  by_cases h1 : j = k * 2 + 1
  · rw [if_pos h1, if_pos (by omega), if_neg (by omega), show j / 2 = k by omega]
  · rw [if_neg h1]
    by_cases h2 : j = k * 2
    · rw [if_pos h2, if_pos (by omega), if_pos (by omega), show j / 2 = k by omega]
    · rw [if_neg h2]
      by_cases h3 : j < k * 2
      · simp only [if_pos h3, if_pos (show j < (k + 1) * 2 by omega)]
      · simp only [if_neg h3, if_neg (show ¬ j < (k + 1) * 2 by omega)]
theorem modRow_end (ps vs : List ByteArray) (n : Nat) (h : ps.length = n) (h' : vs.length = n) (j : Nat) (hj : j < n * 2) : (modsV ps vs)[j]? = some (modRow ps vs n j) := by
  unfold modRow
  rw [if_pos hj]
  have := modsV_at ps vs (j / 2) (by omega) (by omega)
  by_cases h2 : j % 2 = 0
  · rw [if_pos h2]
    rw [show j / 2 * 2 = j by omega] at this
    exact this.1
  · rw [if_neg h2]
    rw [show j / 2 * 2 + 1 = j by omega] at this
    exact this.2

theorem made_row (w : World) (n : Nat) (ps vs : List ByteArray) : (w.alloc (.cells (madeCells #[.string ByteArray.empty, .string ByteArray.empty] (n * 2)) 30)).rowIs w.heap.size 30 (n * 2) (modRow ps vs 0) := by
  refine ⟨madeCells #[.string ByteArray.empty, .string ByteArray.empty] (n * 2), blk_alloc_new _ _, size_madeCells _ _, fun i hi => ?_⟩
  have e : modRow ps vs 0 i = .string ByteArray.empty := by unfold modRow; rw [if_neg (by omega)]
  rw [e]
  have h2 : i % 2 = 0 ∨ i % 2 = 1 := by omega
  rcases h2 with h2 | h2 <;> simp [madeCells, hi, h2]

theorem modsV_len : ∀ (ps vs : List ByteArray) (n : Nat), ps.length = n → vs.length = n → (modsV ps vs).length = n * 2
  | [], [], n, h, _ => by simp at h; subst h; rfl
  | [], _ :: _, n, h, h' => by simp at h h'; omega
  | _ :: _, [], n, h, h' => by simp at h h'; omega
  | p :: ps, v :: vs, n + 1, h, h' => by
    have ih := modsV_len ps vs n (by simpa using h) (by simpa using h')
    have e : modsV (p :: ps) (v :: vs) = .string p :: .string v :: modsV ps vs := rfl
    rw [e]; simp [ih]; omega
  | _ :: _, _ :: _, 0, h, _ => by simp at h
theorem own_of_row {w : World} {base g n : Nat} {f : Nat → Value} {xs : List Value} (h : w.rowIs g 30 (n * 2) f) (hb : base ≤ g) (hn : n ≤ maxLen) (hl : xs.length = n * 2) (hx : ∀ j, j < n * 2 → xs[j]? = some (f j)) : w.ownsRow base 30 2 (.slice (some ⟨g, 0, none⟩) n n) n xs := by
  obtain ⟨cur, hblk, hs, hc⟩ := h
  refine ⟨hl, .inr ⟨g, n, cur, rfl, hb, hblk, Nat.le_refl _, hn, hs, ?_⟩⟩
  rw [List.take_of_length_le (by simp [hs])]
  apply List.ext_getElem?
  intro j
  by_cases hj : j < n * 2
  · rw [hx j hj, ← hc j hj]; simp
  · rw [List.getElem?_eq_none (by simp [hs]; omega), List.getElem?_eq_none (by omega)]

set_option maxHeartbeats 1000000 in
theorem mods_any (B : Nat) (a : Option Addr) (n c : Nat) (ps vs : List ByteArray) (w : World) (hn : n ≤ 1024) (M : MIn B w a n ps vs) (hB : B ≤ w.heap.size) (hna : a = none → n = 0) :
    Calls Yba.prog 5 #[.slice a n c] w fun e w' => ∃ a' c', e = .returned (.slice a' n c') ∧ w'.ownsRow w.heap.size 30 2 (.slice a' n c') n (modsV ps vs) ∧ Below w.heap.size w w' := by
  have hnil := fun w a l c => Lib.run_eql_slice_nil (P := Yba.prog) w 22 32 a l c 0 0 Yba.underlying22
  cases a with
  | none =>
    have hz := hna rfl
    subst hz
    have e1 : ps = [] := List.eq_nil_of_length_eq_zero M.len
    have e2 : vs = [] := List.eq_nil_of_length_eq_zero M.lev
    clear hna
    go_enter Yba.func5, Yba.ntmps5
    go_wp2
    go_ret
    subst e1; subst e2
    exact ⟨none, 0, rfl, World.ownsRow_nil _ _ _ _, Below.refl _ _⟩
  | some x =>
    obtain ⟨i0, hi, hz0, hz1, hz2⟩ := info_parts Yba.info30
    have hmk : ∀ w, (Instr.makeSlice 23 (.int .i64 n) (.int .i64 n)).run Yba.prog w = .ok (.slice (some ⟨w.heap.size, 0, none⟩) n n) (w.alloc (.cells (madeCells #[.string ByteArray.empty, .string ByteArray.empty] (n * 2)) 30)) := fun w => by
      have := run_make (P := Yba.prog) w 23 30 i0 _ Yba.underlying23 hi hz0 .i64 .i64 n n (by omega) (Int.le_refl _) (by rw [hz2]; omega) (by omega)
      rw [hz1] at this
      simpa [Value.cells] using this
    clear hna
    go_enter Yba.func5, Yba.ntmps5
    go_wp2
    go_loopw [4] (fun i wr => ∃ k : Nat, k ≤ n ∧ i = .int .i64 k ∧ wr.rowIs w.heap.size 30 (n * 2) (modRow ps vs k) ∧ Below w.heap.size w wr) (fun i _ => n - (intOf i).toNat)
    case atStart => exact ⟨0, Nat.zero_le _, rfl, made_row w n ps vs, (Below.refl _ _).alloc (Nat.le_refl _) _⟩
    case round =>
      obtain ⟨k, hk, rfl, hrow, hbel⟩ := hrel
      by_cases hkn : k < n
      · obtain ⟨b, off, hx, hb, hc⟩ := M.at_ (by omega)
        simp only [Option.some.injEq] at hx
        subst hx
        have c0 := (hbel.cell (p := ⟨b, off + k * 2, none⟩) (by simp only; omega)).trans (hc k hkn).1
        have c1 := (hbel.cell (p := ⟨b, off + k * 2 + 1, none⟩) (by simp only; omega)).trans (hc k hkn).2
        have d0 := hrow.cell (i := k * 2) (by omega)
        have d1 := hrow.cell (i := k * 2 + 1) (by omega)
        have f0 := hrow.frozen (k * 2)
        have f1 := hrow.frozen (k * 2 + 1)
        have HS := hide (modRow_step ps vs k)
        generalize ps.getD k ByteArray.empty = p at c0 HS
        generalize vs.getD k ByteArray.empty = v at c1 HS
        clear hc
        go_wp2
        go_region
        go_wp2
        go_roundw
        case rel => exact ⟨k + 1, by omega, by go_num, ((hrow.set (k * 2) _).set (k * 2 + 1) _).congr (fun j _ => unhide HS j), ((hbel.setCell (Nat.le_refl _) _).setCell (Nat.le_refl _) _).drew⟩
        case measure => simp [intOf]; omega
      · have hke : k = n := by omega
        subst hke
        go_wp2
        go_ret
        exact ⟨_, _, rfl, own_of_row hrow (Nat.le_refl _) (by unfold maxLen; omega) (modsV_len ps vs k M.len M.lev) (fun j hj => modRow_end ps vs k M.len M.lev j hj), hbel⟩

end Go.Proofs.Ybulkahwi
