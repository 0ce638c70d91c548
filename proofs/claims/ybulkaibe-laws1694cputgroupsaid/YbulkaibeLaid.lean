/-
  ROWS OF NUMBERS, as the law keeps them.
-/
import Derived.Test.YbulkaibeNods
namespace Go.Proofs.Ybulkaibe
open Go.RowKit Go.WideMaps Go.Maps Kit
open Go.ChangeMaps (setBlock heap_setBlock_other)

/-- Block b holds k numbers. -/
def Row (w : World) (b k : Nat) (f : Nat → Int) : Prop := ∃ cs t, w.heap[b]? = some (.cells cs t (0, 0)) ∧ ∀ q, q < k → cs[q]? = some (.int .i64 (f q))

section
variable {w w' : World} {b k : Nat} {f g : Nat → Int}
theorem Row.cell (h : Row w b k f) {q : Nat} (hq : q < k) : w.cell? ⟨b, q, none⟩ = some (.int .i64 (f q)) := by
  obtain ⟨cs, t, e, hc⟩ := h; exact cell_of_blk e (hc q hq)
theorem Row.frozen (h : Row w b k f) (q : Nat) : w.frozen? ⟨b, q, none⟩ = false := by
  obtain ⟨cs, t, e, _⟩ := h; exact frozen_of_blk e q
theorem Row.lt (h : Row w b k f) : b < w.heap.size := by
  obtain ⟨cs, t, e, _⟩ := h; exact blk_lt e
theorem Row.of_block (h : Row w b k f) (e : w'.heap[b]? = w.heap[b]?) : Row w' b k f := by
  obtain ⟨cs, t, e1, hc⟩ := h; exact ⟨cs, t, e.trans e1, hc⟩
theorem Row.congr (h : Row w b k f) (e : ∀ q, q < k → f q = g q) : Row w b k g := by
  obtain ⟨cs, t, e1, hc⟩ := h; exact ⟨cs, t, e1, fun q hq => by rw [← e q hq]; exact hc q hq⟩
theorem Row.set (h : Row w b k f) (i : Nat) (v : Int) : Row (w.setCell ⟨b, i, none⟩ (.int .i64 v)) b k (updF f i v) := by
  obtain ⟨cs, t, e1, hc⟩ := h
  refine ⟨_, t, heap_setCell_same w b i cs t (.int .i64 v) e1, fun q hq => ?_⟩
  have hql : q < cs.size := (Array.getElem?_eq_some_iff.1 (hc q hq)).1
  by_cases hqi : q = i
  · subst hqi; rw [updF_same]; simp [hql]
  · rw [updF_other _ _ hqi]; rw [Array.getElem?_setIfInBounds_ne (Ne.symm hqi)]; exact hc q hq
theorem Row.below (h : Row w b k f) (hB : Below w.heap.size w w') : Row w' b k f := h.of_block (hB.block _ h.lt)
theorem Row.set_other (h : Row w b k f) {p : Addr} (v : Value) (hp : b ≠ p.block) : Row (w.setCell p v) b k f := h.of_block (Kit.set_other w v hp)
end

section
variable {A : Ad} {w w' : World} {loc : Nat → Option Nat} {room cnt : Nat → Int} {N : Nat} {b k : Nat} {f : Nat → Int}
theorem Pln.blk_dyn (h : Pln A w loc room cnt N) {cs : Array Value} {t : TypeId} {fz : Nat × Nat} (hc : w.heap[b]? = some (.cells cs t fz)) : b ∉ A.dyn := by
  intro hb
  have no : ∀ {es : Array MapEntry} {c : Nat}, w.heap[b]? = some (.map es c) → False := fun hm => by rw [hc] at hm; cases hm
  simp only [Ad.dyn, List.mem_cons, List.not_mem_nil, or_false] at hb
  obtain ⟨f, hf, _⟩ := h.placed
  obtain ⟨g, hg, _⟩ := h.count
  rcases hb with e | e | e | e | e
  · obtain ⟨es, c, hm⟩ := mapIs_blk hf; rw [← e] at hm; exact no hm
  · obtain ⟨es, c, hm⟩ := mapIs_blk hg; rw [← e] at hm; exact no hm
  · have := h.rmap 0 (by omega); rw [← e] at this; exact no this
  · have := h.rmap 1 (by omega); rw [← e] at this; exact no this
  · have := h.rmap 2 (by omega); rw [← e] at this; exact no this
/-- A row stays over what turns the plan's own blocks alone. -/
theorem Row.on (hr : Row w b k f) (h : Pln A w loc room cnt N) (hU : Upd w.heap.size A.dyn w w') : Row w' b k f := by
  have hlt := hr.lt
  obtain ⟨cs, t, e, hc⟩ := hr
  exact ⟨cs, t, (hU.block b hlt (h.blk_dyn e)).trans e, hc⟩
/-- A block of cells that is none of the plan's may turn. -/
theorem Pln.free (h : Pln A w loc room cnt N) (hb : ∀ x, x ≠ b → w'.heap[x]? = w.heap[x]?) (hs : ¬ A.sta b) (hd : b ∉ A.dyn) : Pln A w' loc room cnt N := by
  obtain ⟨f, e, hf⟩ := h.placed
  obtain ⟨g, e', hg⟩ := h.count
  have nd : ∀ x, x ∈ A.dyn → w'.heap[x]? = w.heap[x]? := fun x hx => hb x (fun e => hd (e ▸ hx))
  exact ⟨h.fix.of_blocks (fun x hx => hb x (fun e => hs (e ▸ hx))), ⟨f, e.of_block (nd _ (by simp [Ad.dyn])), hf⟩, ⟨g, e'.of_block (nd _ (by simp [Ad.dyn])), hg⟩, fun j hj => (nd _ (A.rb_dyn hj)).trans (h.rmap j hj), h.loc3, h.rm, h.ct⟩
theorem Pln.set (h : Pln A w loc room cnt N) {i : Nat} (v : Value) (hs : ¬ A.sta b) (hd : b ∉ A.dyn) : Pln A (w.setCell ⟨b, i, none⟩ v) loc room cnt N := h.free (fun _ hx => Kit.set_other w v hx) hs hd
end

end Go.Proofs.Ybulkaibe
