/-
  THE WALKS of 'put' and 'remove'.
-/
import Derived.Test.YbulkaibePlan
namespace Go.Proofs.Ybulkaibe
open Go.RowKit Go.WideMaps Go.Maps Kit
open Go.ChangeMaps (setBlock heap_setBlock_other)

section
variable {A : Ad} {loc : Nat → Option Nat} {room cnt : Nat → Int} {N : Nat}

theorem upd_key {f : Lit → Option Value} {a b : ByteArray} (v : Option Value) (h : a ≠ b) : upd f (keyL b) v (keyL a) = f (keyL a) := upd_other _ _ (fun e => h (keyL_inj e))
theorem turned_upd {w w' : World} {b : Nat} (h : w.mapTurned w' b) {T : List Nat} (hb : b ∈ T) : Upd w.heap.size T w w' := Upd.of_turned h (.inl hb)

set_option maxRecDepth 20000 in
set_option maxHeartbeats 2000000 in
theorem put_any (w : World) (h : Pln A w loc room cnt N) (hN : N ≤ 100) (i j : Nat) (hi : i < A.k) (hj : j < 3) :
    Calls Yba.prog 6 #[ptr A.pl, ptr (A.pb i), .string (nnm j)] w fun e w' => e = .returned (.tuple #[]) ∧ Pln A w' (updF loc i (some j)) (updF room j (room j - A.wt i)) (updF cnt j (cnt j + 1)) (N + 1) ∧ Upd w.heap.size A.dyn w w' := by
  obtain ⟨f, hf, hfe⟩ := h.placed
  obtain ⟨g, hg, hge⟩ := h.count
  have hfx := h.fix
  have k6 := hfx.pk.k6
  have hw4 := hfx.pk.w4 i
  -- the first store
  obtain ⟨w1, run1, m1, t1⟩ := mapIs.put (w := w.drew) (hf.of_block rfl) law9 Yba.underlying73 (by unfold maxLen; omega) (.string (nnm j)) (key_is (pnm_size i)) (keyL_is _)
  have U1 : Upd w.heap.size A.dyn w w1 := (Upd.refl _ _ _).drew.trans (turned_upd t1 (by simp [Ad.dyn]))
  have z1 := U1.size
  have fx1 := hfx.upd U1
  have g1 : mapIs w1 Yba.prog 9 A.cm N g := hg.of_block ((turned_block t1 (Ne.symm hfx.d1)).trans rfl)
  have look2 : (Instr.lookup 75 (.map (some A.cm)) (.string (nnm j)) false).run Yba.prog w1 = .ok (.int .i64 (cnt j)) w1 := by
    rw [g1.look law9 Yba.underlying75 (zero3 w1) (key_is (nnm_size j)), hge j hj]
  obtain ⟨w2, run2, m2, t2⟩ := g1.put law9 Yba.underlying75 (by unfold maxLen; omega) (.int .i64 (cnt j + 1)) (key_is (nnm_size j)) (keyL_is _)
  have U2 : Upd w.heap.size A.dyn w w2 := U1.trans ((turned_upd t2 (by simp [Ad.dyn])).mono z1 (fun _ _ h => h))
  have fx2 := hfx.upd U2
  have look3 : (Instr.lookup 74 (.map (some A.rm)) (.string (nnm j)) false).run Yba.prog w2.drew = .ok (.map (some (A.rb j))) w2.drew := Fix.lookRoom (w := w2.drew) (fx2.of_blocks (fun _ _ => rfl)) hj
  have r2 : ∀ q, q < 3 → w2.heap[A.rb q]? = some (oneMap (room q)) := fun q hq => by
    rw [turned_block t2 (hfx.d2 q hq).2, turned_block t1 (hfx.d2 q hq).1]; exact h.rmap q hq
  have hb := h.rm j hj
  have hc := h.ct j hj
  have hwn : A.wb i ≠ A.rb j := fun e => hfx.sep (A.wb i) (.inr (.inr (.inr (.inr ⟨i, hi, .inr rfl⟩)))) (e ▸ A.rb_dyn hj)
  have htake := take_any A.c (A.pb i) (A.wb i) (A.rb j) (room j) (A.wt i) w2.drew (fx2.pk.weights hi) (fx2.pk.wm i hi) (r2 j hj) hwn (by omega) (by omega)
  have fin : ∀ w3, w3.heap[A.rb j]? = some (oneMap (room j - A.wt i)) → Upd w2.drew.heap.size [A.rb j] w2.drew w3 → Pln A w3 (updF loc i (some j)) (updF room j (room j - A.wt i)) (updF cnt j (cnt j + 1)) (N + 1) ∧ Upd w.heap.size A.dyn w w3 := fun w3 h3 u3 => by
    have U3 : Upd w.heap.size A.dyn w w3 := U2.trans (Upd.mono (w := w2) (B := w2.heap.size) (T := [A.rb j]) ⟨u3.os, u3.tape, u3.output, u3.size, u3.block⟩ U2.size (fun x _ hx => by simp at hx; rw [hx]; exact A.rb_dyn hj))
    have lt1 : A.pm < w2.heap.size := by have := (m1.lt); have := (turned_size t2); omega
    refine ⟨⟨hfx.upd U3, ⟨_, m1.of_block ((u3.block A.pm lt1 (by simpa using Ne.symm (hfx.d2 j hj).1)).trans (show w2.heap[A.pm]? = _ from turned_block t2 hfx.d1)), fun q hq => ?_⟩, ⟨_, m2.of_block (u3.block A.cm m2.lt (by simpa using Ne.symm (hfx.d2 j hj).2)), fun q hq => ?_⟩, fun q hq => ?_, fun q r hqr => ?_, fun q hq => ?_, fun q hq => ?_⟩, U3⟩
    · by_cases hqi : q = i
      · rw [hqi, upd_same _ (keyL_is _), updF_same]; rfl
      · rw [upd_key _ (fun e => hqi (pnm_inj (by omega) (by omega) e)), updF_other _ _ hqi]; exact hfe q hq
    · by_cases hqj : q = j
      · rw [hqj, upd_same _ (keyL_is _), updF_same]; rfl
      · rw [upd_key _ (fun e => hqj (nnm_inj hq hj e)), updF_other _ _ hqj]; exact hge q hq
    · by_cases hqj : q = j
      · rw [hqj, updF_same]; exact h3
      · rw [updF_other _ _ hqj, u3.block (A.rb q) (blk_lt (r2 q hq)) (by simpa using fun e => hqj (hfx.d3 q j hq hj e))]; exact r2 q hq
    · by_cases hqi : q = i
      · rw [hqi, updF_same] at hqr; cases hqr; exact hj
      · rw [updF_other _ _ hqi] at hqr; exact h.loc3 q r hqr
    · have := h.rm q hq
      by_cases hqj : q = j
      · rw [hqj, updF_same]; omega
      · rw [updF_other _ _ hqj]; omega
    · have := h.ct q hq
      by_cases hqj : q = j
      · rw [hqj, updF_same]; omega
      · rw [updF_other _ _ hqj]; omega
  have HT := hide (And.intro htake fin)
  have p0 : w.drew.cell? ⟨A.pl, 3, none⟩ = some (.map (some A.pm)) := hfx.plCell.2.1
  have p1 : w.drew.cell? ⟨A.pb i, 0, none⟩ = some (.string (pnm i)) := hfx.pk.name hi
  have q0 := fx1.plCell.2.1
  have q1 := fx1.pk.name hi
  have q5 := fx1.plCell.2.2.2
  have s0 : w2.drew.cell? ⟨A.pl, 0, none⟩ = some (ptr A.c) := fx2.plCell.1
  have s4 : w2.drew.cell? ⟨A.pl, 4, none⟩ = some (.map (some A.rm)) := fx2.plCell.2.2.1
  have hcb : -1000 ≤ cnt j ∧ cnt j ≤ 1000 := by omega
  obtain ⟨hcb0, hcb1⟩ := hcb
  clear h hf hfe hg hge hfx fx1 g1 fx2 U1 U2 m1 m2 t1 t2 r2 hb hc hwn htake fin hw4 k6 z1
  go_enter Yba.func6, Yba.ntmps6
  go_wp2
  go_region_held3 (fun W => W.cell? ⟨A.pl, 3, none⟩ = some (.map (some A.pm)) ∧ W.cell? ⟨A.pb i, 0, none⟩ = some (.string (pnm i))) (with_reducible first | exact ⟨by assumption, by assumption⟩) (first | fail)
  clear run1 p0 p1 q0 q1
  go_wp2
  clear run2 look2 q5
  go_region_held3 (fun W => W.cell? ⟨A.pl, 0, none⟩ = some (ptr A.c) ∧ W.cell? ⟨A.pl, 4, none⟩ = some (.map (some A.rm))) (with_reducible first | exact ⟨by assumption, by assumption⟩) (first | (go_at_call 12; refine (unhide HT).1.mono ?_; rintro e w3 ⟨rfl, h3, u3⟩; have F := (unhide HT).2 w3 h3 u3; have c0 := F.1.fix.plCell.1; have c4 := F.1.fix.plCell.2.2.1; have HF := hide F; clear F h3 u3))
  go_end0
  exact ⟨rfl, unhide HF⟩
theorem delete_ty (a : Array TypeId) (ty ty' : TypeId) (b : Array Value) : Builtin.delete_ a ty b = Builtin.delete_ a ty' b := rfl

set_option maxRecDepth 20000 in
set_option maxHeartbeats 2000000 in
theorem remove_any (w : World) (h : Pln A w loc room cnt N) (hN : N ≤ 100) (i j : Nat) (hi : i < A.k) (hj : j < 3) (hloc : loc i = some j) :
    Calls Yba.prog 16 #[ptr A.pl, ptr (A.pb i)] w fun e w' => e = .returned (.tuple #[]) ∧ Pln A w' (updF loc i none) (updF room j (room j + A.wt i)) (updF cnt j (cnt j - 1)) (N + 1) ∧ Upd w.heap.size A.dyn w w' := by
  obtain ⟨f, hf, hfe⟩ := h.placed
  obtain ⟨g, hg, hge⟩ := h.count
  have hfx := h.fix
  have k6 := hfx.pk.k6
  have hw4 := hfx.pk.w4 i
  have look0 : (Instr.lookup 73 (.map (some A.pm)) (.string (pnm i)) false).run Yba.prog w.drew = .ok (.string (nnm j)) w.drew := by
    have := (h.below (w' := w.drew) (Below.refl _ _).drew).lookPlaced hi
    rw [hloc] at this; exact this
  obtain ⟨w1, run1', m1, t1⟩ := mapIs.del (w := w.drew.drew) (hf.of_block rfl) law9 Yba.underlying73 (key_is (pnm_size i)) (keyL_is _) 0
  have run1 : ∀ ty, (Builtin.delete_ #[73, 9] ty #[.map (some A.pm), .string (pnm i)]).run Yba.prog w.drew.drew = .ok (.tuple #[]) w1 := fun ty => by rw [delete_ty _ ty 0]; exact run1'
  have U1 : Upd w.heap.size A.dyn w w1 := (Upd.refl _ _ _).drew.drew.trans (turned_upd t1 (by simp [Ad.dyn]))
  have z1 := U1.size
  have fx1 := hfx.upd U1
  have g1 : mapIs w1 Yba.prog 9 A.cm N g := hg.of_block ((turned_block t1 (Ne.symm hfx.d1)).trans rfl)
  have look2 : (Instr.lookup 75 (.map (some A.cm)) (.string (nnm j)) false).run Yba.prog w1 = .ok (.int .i64 (cnt j)) w1 := by
    rw [g1.look law9 Yba.underlying75 (zero3 w1) (key_is (nnm_size j)), hge j hj]
  obtain ⟨w2, run2, m2, t2⟩ := g1.put law9 Yba.underlying75 (by unfold maxLen; omega) (.int .i64 (cnt j - 1)) (key_is (nnm_size j)) (keyL_is _)
  have U2 : Upd w.heap.size A.dyn w w2 := U1.trans ((turned_upd t2 (by simp [Ad.dyn])).mono z1 (fun _ _ h => h))
  have fx2 := hfx.upd U2
  have look3 : (Instr.lookup 74 (.map (some A.rm)) (.string (nnm j)) false).run Yba.prog w2.drew = .ok (.map (some (A.rb j))) w2.drew := Fix.lookRoom (w := w2.drew) (fx2.of_blocks (fun _ _ => rfl)) hj
  have r2 : ∀ q, q < 3 → w2.heap[A.rb q]? = some (oneMap (room q)) := fun q hq => by
    rw [turned_block t2 (hfx.d2 q hq).2, turned_block t1 (hfx.d2 q hq).1]; exact h.rmap q hq
  have hb := h.rm j hj
  have hc := h.ct j hj
  have hwn : A.wb i ≠ A.rb j := fun e => hfx.sep (A.wb i) (.inr (.inr (.inr (.inr ⟨i, hi, .inr rfl⟩)))) (e ▸ A.rb_dyn hj)
  have hgive := give_any A.c (A.pb i) (A.wb i) (A.rb j) (room j) (A.wt i) w2.drew (fx2.pk.weights hi) (fx2.pk.wm i hi) (r2 j hj) hwn (by omega) (by omega)
  have fin : ∀ w3, w3.heap[A.rb j]? = some (oneMap (room j + A.wt i)) → Upd w2.drew.heap.size [A.rb j] w2.drew w3 → Pln A w3 (updF loc i none) (updF room j (room j + A.wt i)) (updF cnt j (cnt j - 1)) (N + 1) ∧ Upd w.heap.size A.dyn w w3 := fun w3 h3 u3 => by
    have U3 : Upd w.heap.size A.dyn w w3 := U2.trans (Upd.mono (w := w2) (B := w2.heap.size) (T := [A.rb j]) ⟨u3.os, u3.tape, u3.output, u3.size, u3.block⟩ U2.size (fun x _ hx => by simp at hx; rw [hx]; exact A.rb_dyn hj))
    have lt1 : A.pm < w2.heap.size := by have := (m1.lt); have := (turned_size t2); omega
    refine ⟨⟨hfx.upd U3, ⟨_, (m1.mono (Nat.le_succ N)).of_block ((u3.block A.pm lt1 (by simpa using Ne.symm (hfx.d2 j hj).1)).trans (show w2.heap[A.pm]? = _ from turned_block t2 hfx.d1)), fun q hq => ?_⟩, ⟨_, m2.of_block (u3.block A.cm m2.lt (by simpa using Ne.symm (hfx.d2 j hj).2)), fun q hq => ?_⟩, fun q hq => ?_, fun q r hqr => ?_, fun q hq => ?_, fun q hq => ?_⟩, U3⟩
    · by_cases hqi : q = i
      · rw [hqi, upd_same _ (keyL_is _), updF_same]; rfl
      · rw [upd_key _ (fun e => hqi (pnm_inj (by omega) (by omega) e)), updF_other _ _ hqi]; exact hfe q hq
    · by_cases hqj : q = j
      · rw [hqj, upd_same _ (keyL_is _), updF_same]; rfl
      · rw [upd_key _ (fun e => hqj (nnm_inj hq hj e)), updF_other _ _ hqj]; exact hge q hq
    · by_cases hqj : q = j
      · rw [hqj, updF_same]; exact h3
      · rw [updF_other _ _ hqj, u3.block (A.rb q) (blk_lt (r2 q hq)) (by simpa using fun e => hqj (hfx.d3 q j hq hj e))]; exact r2 q hq
    · by_cases hqi : q = i
      · rw [hqi, updF_same] at hqr; cases hqr
      · rw [updF_other _ _ hqi] at hqr; exact h.loc3 q r hqr
    · have := h.rm q hq
      by_cases hqj : q = j
      · rw [hqj, updF_same]; omega
      · rw [updF_other _ _ hqj]; omega
    · have := h.ct q hq
      by_cases hqj : q = j
      · rw [hqj, updF_same]; omega
      · rw [updF_other _ _ hqj]; omega
  have HT := hide (And.intro hgive fin)
  have p0 : w.drew.cell? ⟨A.pl, 3, none⟩ = some (.map (some A.pm)) := hfx.plCell.2.1
  have p1 : w.drew.cell? ⟨A.pb i, 0, none⟩ = some (.string (pnm i)) := hfx.pk.name hi
  have p2 : w.drew.drew.cell? ⟨A.pl, 3, none⟩ = some (.map (some A.pm)) := hfx.plCell.2.1
  have p3 : w.drew.drew.cell? ⟨A.pb i, 0, none⟩ = some (.string (pnm i)) := hfx.pk.name hi
  have q0 := fx1.plCell.2.1
  have q1 := fx1.pk.name hi
  have q5 := fx1.plCell.2.2.2
  have s0 : w2.drew.cell? ⟨A.pl, 0, none⟩ = some (ptr A.c) := fx2.plCell.1
  have s4 : w2.drew.cell? ⟨A.pl, 4, none⟩ = some (.map (some A.rm)) := fx2.plCell.2.2.1
  have hcb : -1000 ≤ cnt j ∧ cnt j ≤ 1000 := by omega
  obtain ⟨hcb0, hcb1⟩ := hcb
  clear h hf hfe hg hge hfx fx1 g1 fx2 U1 U2 m1 m2 t1 t2 r2 hb hc hwn hgive fin hw4 k6 z1 run1' hloc
  go_enter Yba.func16, Yba.ntmps16
  go_wp2
  go_region_held3 (fun W => W.cell? ⟨A.pl, 3, none⟩ = some (.map (some A.pm)) ∧ W.cell? ⟨A.pb i, 0, none⟩ = some (.string (pnm i))) (with_reducible first | exact ⟨by assumption, by assumption⟩) (first | fail)
  clear look0 p0 p1
  go_wp2
  go_region_held3 (fun W => W.cell? ⟨A.pl, 3, none⟩ = some (.map (some A.pm)) ∧ W.cell? ⟨A.pb i, 0, none⟩ = some (.string (pnm i))) (with_reducible first | exact ⟨by assumption, by assumption⟩) (first | fail)
  clear run1 p2 p3 q0 q1
  go_wp2
  clear run2 look2 q5
  go_region_held3 (fun W => W.cell? ⟨A.pl, 0, none⟩ = some (ptr A.c) ∧ W.cell? ⟨A.pl, 4, none⟩ = some (.map (some A.rm))) (with_reducible first | exact ⟨by assumption, by assumption⟩) (first | (go_at_call 31; refine (unhide HT).1.mono ?_; rintro e w3 ⟨rfl, h3, u3⟩; have F := (unhide HT).2 w3 h3 u3; have c0 := F.1.fix.plCell.1; have c4 := F.1.fix.plCell.2.2.1; have HF := hide F; clear F h3 u3))
  go_end0
  exact ⟨rfl, unhide HF⟩
end

end Go.Proofs.Ybulkaibe
