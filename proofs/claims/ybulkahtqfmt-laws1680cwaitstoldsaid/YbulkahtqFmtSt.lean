/-
  WHAT LawS1680CWaits HOLDS WHILE IT BUILDS THE WAITS: three rows, two arrays, the targets' rows.
-/
import Derived.Test.YbulkahtqFmtHelp
namespace Go.Proofs.YbulkahtqFmt
open Go.RowKit Go.WideMaps Go.Maps Kit

/-! ### The plain side -/
/-- The targets of one wait: each once, in order, the process itself left out. -/
def dd (p : ByteArray) (f : Nat → ByteArray) : Nat → List ByteArray
  | 0 => []
  | q + 1 => if f q = p ∨ (dd p f q).any (fun y => decide (y = f q)) = true then dd p f q else dd p f q ++ [f q]
theorem any_mem (l : List ByteArray) (x : ByteArray) : l.any (fun y => decide (y = x)) = true ↔ x ∈ l := by
  rw [List.any_eq_true]
  constructor
  · rintro ⟨y, hy, e⟩; rw [← of_decide_eq_true e]; exact hy
  · exact fun h => ⟨x, h, by simp⟩
theorem dd_skip {p : ByteArray} {f : Nat → ByteArray} {q : Nat} (h : f q = p ∨ f q ∈ dd p f q) : dd p f (q + 1) = dd p f q := by simp only [dd]; rw [if_pos (h.imp_right (any_mem _ _).2)]
theorem dd_take {p : ByteArray} {f : Nat → ByteArray} {q : Nat} (h : ¬ (f q = p ∨ f q ∈ dd p f q)) : dd p f (q + 1) = dd p f q ++ [f q] := by simp only [dd]; rw [if_neg (fun h' => h (h'.imp_right (any_mem _ _).1))]
theorem dd_len (p : ByteArray) (f : Nat → ByteArray) : ∀ q, (dd p f q).length ≤ q
  | 0 => Nat.le_refl _
  | q + 1 => by
    have ih := dd_len p f q
    by_cases h : f q = p ∨ f q ∈ dd p f q
    · rw [dd_skip h]; omega
    · rw [dd_take h]; simp; omega
theorem dd_nodup (p : ByteArray) (f : Nat → ByteArray) : ∀ q, (dd p f q).Nodup
  | 0 => List.nodup_nil
  | q + 1 => by
    have ih := dd_nodup p f q
    by_cases h : f q = p ∨ f q ∈ dd p f q
    · rw [dd_skip h]; exact ih
    · rw [dd_take h]
      rw [List.nodup_append]
      refine ⟨ih, by simp, fun a ha b hb => ?_⟩
      simp at hb; subst hb
      intro e; subst e
      exact h (.inr ha)
theorem dd_all (p : ByteArray) (f : Nat → ByteArray) (P : ByteArray → Prop) (h : ∀ q, P (f q)) : ∀ q y, y ∈ dd p f q → P y
  | 0, y, hy => by cases hy
  | q + 1, y, hy => by
    by_cases h' : f q = p ∨ f q ∈ dd p f q
    · rw [dd_skip h'] at hy; exact dd_all p f P h q y hy
    · rw [dd_take h'] at hy
      rcases List.mem_append.1 hy with hy | hy
      · exact dd_all p f P h q y hy
      · simp at hy; subst hy; exact h q

/-! ### The state -/
/-- An array of four cells. -/
def four (f : Nat → Value) : Array Value := #[f 0, f 1, f 2, f 3]
theorem four_get (f : Nat → Value) {j : Nat} (hj : j < 4) : (four f)[j]? = some (f j) := by
  match j, hj with
  | 0, _ => rfl
  | 1, _ => rfl
  | 2, _ => rfl
  | 3, _ => rfl
theorem four_set (f : Nat → Value) {j : Nat} (hj : j < 4) (v : Value) : (four f).setIfInBounds j v = four (updF f j v) := by
  match j, hj with
  | 0, _ => rfl
  | 1, _ => rfl
  | 2, _ => rfl
  | 3, _ => rfl

/-- The strings xs lie in a row of the call's own. -/
abbrev TsIs (B0 : Nat) (W : World) (v : Value) (xs : List ByteArray) : Prop := W.ownsRow B0 9 1 v xs.length (xs.map .string)

structure St (B0 lt sn tl tn : Nat) (W : World) (k8 k11 k12 : Nat) (v8 v11 v12 : Value) (xs8 : List Value) (es : List Bool) (ps : List ByteArray) (la : Nat → Value) (se : Nat → Bool) (G : Value → List ByteArray → Prop) : Prop where
  own8 : W.ownsRow B0 67 7 v8 k8 xs8
  own11 : W.ownsRow B0 4 1 v11 k11 (es.map .bool)
  own12 : W.ownsRow B0 9 1 v12 k12 (ps.map .string)
  blt : W.heap[lt]? = some (.cells (four la) tl (0, 0))
  bsn : W.heap[sn]? = some (.cells (four (fun j => .bool (se j))) tn (0, 0))
  ts : ∀ v xs, G v xs → TsIs B0 W v xs ∧ ∀ b, v.ownBlock = some b → v12.ownBlock ≠ some b
  llt : lt < B0
  lsn : sn < B0
  ne : lt ≠ sn
  hb : B0 ≤ W.heap.size

section
variable {B0 lt sn tl tn : Nat} {W W' : World} {k8 k11 k12 : Nat} {v8 v11 v12 v' : Value} {xs8 : List Value} {es : List Bool} {ps : List ByteArray} {la : Nat → Value} {se : Nat → Bool} {G : Value → List ByteArray → Prop}

theorem St.below (h : St B0 lt sn tl tn W k8 k11 k12 v8 v11 v12 xs8 es ps la se G) (hB : Below W.heap.size W W') : St B0 lt sn tl tn W' k8 k11 k12 v8 v11 v12 xs8 es ps la se G :=
  have hb := h.hb
  have l1 := h.llt
  have l2 := h.lsn
  have oo : ∀ {e s n : Nat} {v : Value} {xs : List Value}, W.ownsRow B0 e s v n xs → W'.ownsRow B0 e s v n xs := fun ho => own_of_block ho (fun k hk => hB.block k (ho.lt k hk).2)
  ⟨oo h.own8, oo h.own11, oo h.own12, (hB.block lt (by omega)).trans h.blt, (hB.block sn (by omega)).trans h.bsn, fun v xs hg => ⟨oo (h.ts v xs hg).1, (h.ts v xs hg).2⟩, h.llt, h.lsn, h.ne, Nat.le_trans hb hB.size⟩

theorem St.grow11 (h : St B0 lt sn tl tn W k8 k11 k12 v8 v11 v12 xs8 es ps la se G) {e : Bool} {o : Obj} (hown : W'.ownsRow B0 4 1 v' (k11 + 1) (es.map .bool ++ [.bool e])) (hg : (W.alloc o).grownBy W' v11.ownBlock) :
    St B0 lt sn tl tn W' k8 (k11 + 1) k12 v8 v' v12 xs8 (es ++ [e]) ps la se G := by
  have hb := h.hb
  have l1 := h.llt
  have l2 := h.lsn
  have hz := hg.size
  simp only [World.size_alloc] at hz
  have K : ∀ k, k < W.heap.size → some k ≠ v11.ownBlock → W'.heap[k]? = W.heap[k]? := fun k hk hne => (hg.block k (by simp; omega) hne).trans (blk_old _ _ hk)
  have old : ∀ k, k < B0 → W'.heap[k]? = W.heap[k]? := fun k hk => K k (by omega) (fun e => by have := (h.own11.lt k e.symm).1; omega)
  have oo : ∀ {e s n : Nat} {v : Value} {xs : List Value}, W.ownsRow B0 e s v n xs → e ≠ 4 → W'.ownsRow B0 e s v n xs := fun ho he => own_of_block ho (fun k hk => K k (ho.lt k hk).2 (own_apart ho h.own11 he hk))
  exact ⟨oo h.own8 (by decide), by rw [List.map_append]; exact hown, oo h.own12 (by decide), (old lt l1).trans h.blt, (old sn l2).trans h.bsn, fun v xs hg => ⟨oo (h.ts v xs hg).1 (by decide), (h.ts v xs hg).2⟩, l1, l2, h.ne, by omega⟩

theorem St.grow12 (h : St B0 lt sn tl tn W k8 k11 k12 v8 v11 v12 xs8 es ps la se G) {x : ByteArray} {o : Obj} (hown : W'.ownsRow B0 9 1 v' (k12 + 1) (ps.map .string ++ [.string x])) (hg : (W.alloc o).grownBy W' v12.ownBlock) (hat : v'.ownBlock = v12.ownBlock ∨ v'.ownBlock = some (W.heap.size + 1)) :
    St B0 lt sn tl tn W' k8 k11 (k12 + 1) v8 v11 v' xs8 es (ps ++ [x]) la se G := by
  have hb := h.hb
  have l1 := h.llt
  have l2 := h.lsn
  have hz := hg.size
  simp only [World.size_alloc] at hz
  have K : ∀ k, k < W.heap.size → some k ≠ v12.ownBlock → W'.heap[k]? = W.heap[k]? := fun k hk hne => (hg.block k (by simp; omega) hne).trans (blk_old _ _ hk)
  have old : ∀ k, k < B0 → W'.heap[k]? = W.heap[k]? := fun k hk => K k (by omega) (fun e => by have := (h.own12.lt k e.symm).1; omega)
  have oo : ∀ {e s n : Nat} {v : Value} {xs : List Value}, W.ownsRow B0 e s v n xs → e ≠ 9 → W'.ownsRow B0 e s v n xs := fun ho he => own_of_block ho (fun k hk => K k (ho.lt k hk).2 (own_apart ho h.own12 he hk))
  refine ⟨oo h.own8 (by decide), oo h.own11 (by decide), by rw [List.map_append]; exact hown, (old lt l1).trans h.blt, (old sn l2).trans h.bsn, fun v xs hv => ?_, l1, l2, h.ne, by omega⟩
  obtain ⟨h1, h2⟩ := h.ts v xs hv
  refine ⟨own_of_block h1 (fun k hk => K k (h1.lt k hk).2 (fun e => h2 k hk e.symm)), fun b hb => ?_⟩
  rcases hat with e | e
  · rw [e]; exact h2 b hb
  · rw [e]; intro e'; cases e'; have := (h1.lt _ hb).2; omega

theorem St.grow8 (h : St B0 lt sn tl tn W k8 k11 k12 v8 v11 v12 xs8 es ps la se G) {news : List Value} {o : Obj} (hown : W'.ownsRow B0 67 7 v' (k8 + 1) (xs8 ++ news)) (hg : (W.alloc o).grownBy W' v8.ownBlock) :
    St B0 lt sn tl tn W' (k8 + 1) k11 k12 v' v11 v12 (xs8 ++ news) es ps la se G := by
  have hb := h.hb
  have l1 := h.llt
  have l2 := h.lsn
  have hz := hg.size
  simp only [World.size_alloc] at hz
  have K : ∀ k, k < W.heap.size → some k ≠ v8.ownBlock → W'.heap[k]? = W.heap[k]? := fun k hk hne => (hg.block k (by simp; omega) hne).trans (blk_old _ _ hk)
  have old : ∀ k, k < B0 → W'.heap[k]? = W.heap[k]? := fun k hk => K k (by omega) (fun e => by have := (h.own8.lt k e.symm).1; omega)
  have oo : ∀ {e s n : Nat} {v : Value} {xs : List Value}, W.ownsRow B0 e s v n xs → e ≠ 67 → W'.ownsRow B0 e s v n xs := fun ho he => own_of_block ho (fun k hk => K k (ho.lt k hk).2 (own_apart ho h.own8 he hk))
  exact ⟨hown, oo h.own11 (by decide), oo h.own12 (by decide), (old lt l1).trans h.blt, (old sn l2).trans h.bsn, fun v xs hg => ⟨oo (h.ts v xs hg).1 (by decide), (h.ts v xs hg).2⟩, l1, l2, h.ne, by omega⟩

theorem St.setSeen (h : St B0 lt sn tl tn W k8 k11 k12 v8 v11 v12 xs8 es ps la se G) {j : Nat} (hj : j < 4) (b : Bool) : St B0 lt sn tl tn (W.setCell ⟨sn, j, none⟩ (.bool b)) k8 k11 k12 v8 v11 v12 xs8 es ps la (updF se j b) G := by
  have l1 := h.llt
  have l2 := h.lsn
  have oo : ∀ {e s n : Nat} {v : Value} {xs : List Value}, W.ownsRow B0 e s v n xs → (W.setCell ⟨sn, j, none⟩ (.bool b)).ownsRow B0 e s v n xs := fun ho => own_of_block ho (fun k hk => set_other _ _ (by have := (ho.lt k hk).1; omega))
  refine ⟨oo h.own8, oo h.own11, oo h.own12, (set_other _ _ h.ne).trans h.blt, ?_, fun v xs hg => ⟨oo (h.ts v xs hg).1, (h.ts v xs hg).2⟩, l1, l2, h.ne, by rw [set_size]; exact h.hb⟩
  have e := set_blk (i := j) h.bsn (.bool b)
  rw [e, four_set _ hj]
  congr 3
  funext q
  unfold updF
  split <;> rfl

theorem St.setLast (h : St B0 lt sn tl tn W k8 k11 k12 v8 v11 v12 xs8 es ps la se G) {j : Nat} (hj : j < 4) (v : Value) : St B0 lt sn tl tn (W.setCell ⟨lt, j, none⟩ v) k8 k11 k12 v8 v11 v12 xs8 es ps (updF la j v) se G := by
  have l1 := h.llt
  have l2 := h.lsn
  have oo : ∀ {e s n : Nat} {u : Value} {xs : List Value}, W.ownsRow B0 e s u n xs → (W.setCell ⟨lt, j, none⟩ v).ownsRow B0 e s u n xs := fun ho => own_of_block ho (fun k hk => set_other _ _ (by have := (ho.lt k hk).1; omega))
  refine ⟨oo h.own8, oo h.own11, oo h.own12, ?_, (set_other _ _ (Ne.symm h.ne)).trans h.bsn, fun v xs hg => ⟨oo (h.ts v xs hg).1, (h.ts v xs hg).2⟩, l1, l2, h.ne, by rw [set_size]; exact h.hb⟩
  have e := set_blk (i := j) h.blt v
  rw [e, four_set _ hj]

/-- A new row of targets. -/
theorem St.addTs (h : St B0 lt sn tl tn W k8 k11 k12 v8 v11 v12 xs8 es ps la se G) {v : Value} {xs : List ByteArray} {m : Nat} (ho : W.ownsRow m 9 1 v xs.length (xs.map .string)) (hm : B0 ≤ m) (h12 : ∀ b, v12.ownBlock = some b → b < m) : St B0 lt sn tl tn W k8 k11 k12 v8 v11 v12 xs8 es ps la se (fun u ys => (u = v ∧ ys = xs) ∨ G u ys) := by
  refine ⟨h.own8, h.own11, h.own12, h.blt, h.bsn, fun u ys hu => ?_, h.llt, h.lsn, h.ne, h.hb⟩
  rcases hu with ⟨rfl, rfl⟩ | hu
  · exact ⟨ho.mono hm, fun b hb e => by have := (ho.lt b hb).1; have := h12 b e; omega⟩
  · exact h.ts u ys hu

theorem St.lastCell (h : St B0 lt sn tl tn W k8 k11 k12 v8 v11 v12 xs8 es ps la se G) {j : Nat} (hj : j < 4) : W.cell? ⟨lt, j, none⟩ = some (la j) := cell_of_blk h.blt (four_get la hj)
theorem St.seenCell (h : St B0 lt sn tl tn W k8 k11 k12 v8 v11 v12 xs8 es ps la se G) {j : Nat} (hj : j < 4) : W.cell? ⟨sn, j, none⟩ = some (.bool (se j)) := cell_of_blk h.bsn (four_get _ hj)
end

end Go.Proofs.YbulkahtqFmt
