/-
  A PLAN AS IT LIES, and the walks of 'put' and 'remove'.
-/
import Derived.Test.YbulkaibeDeps
namespace Go.Proofs.Ybulkaibe
open Go.RowKit Go.WideMaps Go.Maps Kit
open Go.ChangeMaps (setBlock heap_setBlock_other)

/-- The nodes' names. -/
def nnm (j : Nat) : ByteArray := ⟨#[(97 + j).toUInt8]⟩
theorem nnm_inj {i j : Nat} (hi : i < 3) (hj : j < 3) (h : nnm i = nnm j) : i = j := by
  have key : ∀ a b : Fin 3, nnm a = nnm b → a = b := by decide
  simpa using key ⟨i, hi⟩ ⟨j, hj⟩ h
theorem pnm_inj {i j : Nat} (hi : i < 6) (hj : j < 6) (h : pnm i = pnm j) : i = j := by
  have key : ∀ a b : Fin 6, pnm a = pnm b → a = b := by decide
  simpa using key ⟨i, hi⟩ ⟨j, hj⟩ h
theorem nnm_size (j : Nat) : (nnm j).size ≤ maxLen := by show 1 ≤ maxLen; unfold maxLen; omega
theorem pnm_size (j : Nat) : (pnm j).size ≤ maxLen := by show 2 ≤ maxLen; unfold maxLen; omega

def updF {α : Type} (f : Nat → α) (p : Nat) (v : α) : Nat → α := fun k => if k = p then v else f k
theorem updF_same {α : Type} (f : Nat → α) (p : Nat) (v : α) : updF f p v p = v := by simp [updF]
theorem updF_other {α : Type} (f : Nat → α) {p k : Nat} (v : α) (h : k ≠ p) : updF f p v k = f k := by simp [updF, h]

theorem zero9 (w : World) : (zeroValue 9).run Yba.prog w = .ok (.string ByteArray.empty) w := by kernel_rfl
theorem zero78 (w : World) : (zeroValue 78).run Yba.prog w = .ok (.map none) w := by kernel_rfl
theorem zero3 (w : World) : (zeroValue 3).run Yba.prog w = .ok (.int .i64 0) w := by kernel_rfl

/-- Where all of it lies, and what does not turn. -/
structure Ad where
  c : Nat
  pl : Nat
  pm : Nat
  rm : Nat
  cm : Nat
  pr : Nat
  cpk : Nat
  k : Nat
  rb : Nat → Nat
  pb : Nat → Nat
  wb : Nat → Nat
  pri : Nat → Nat
  wt : Nat → Nat
  pol : ByteArray

/-- The blocks that turn. -/
def Ad.dyn (A : Ad) : List Nat := [A.pm, A.cm, A.rb 0, A.rb 1, A.rb 2]
/-- The blocks that do not. -/
def Ad.sta (A : Ad) (b : Nat) : Prop := b = A.pl ∨ b = A.c ∨ b = A.pr ∨ b = A.rm ∨ ∃ i, i < A.k ∧ (b = A.pb i ∨ b = A.wb i)
theorem Ad.rb_dyn (A : Ad) {j : Nat} (hj : j < 3) : A.rb j ∈ A.dyn := by
  match j, hj with
  | 0, _ => simp [Ad.dyn]
  | 1, _ => simp [Ad.dyn]
  | 2, _ => simp [Ad.dyn]

/-- What stands. -/
structure Fix (A : Ad) (w : World) : Prop where
  pl : ∃ mem, w.heap[A.pl]? = some (.cells #[ptr A.c, .map none, mem, .map (some A.pm), .map (some A.rm), .map (some A.cm)] 77 (0, 0))
  cpk : w.cell? ⟨A.c, 11, none⟩ = some (.slice (some ⟨A.pr, 0, none⟩) A.k A.cpk)
  row : ∀ i, i < A.k → w.cell? ⟨A.pr, i, none⟩ = some (ptr (A.pb i))
  k0 : 0 < A.k
  pk : Pk w A.k A.pb A.wb A.pri A.wt A.pol
  rooms : ∃ f, mapIs w Yba.prog 9 A.rm 3 f ∧ ∀ j, j < 3 → f (keyL (nnm j)) = some (.map (some (A.rb j)))
  sep : ∀ b, A.sta b → b ∉ A.dyn
  d1 : A.pm ≠ A.cm
  d2 : ∀ j, j < 3 → A.rb j ≠ A.pm ∧ A.rb j ≠ A.cm
  d3 : ∀ i j, i < 3 → j < 3 → A.rb i = A.rb j → i = j

/-- The plan: where each package runs, what room is left, how many run. -/
structure Pln (A : Ad) (w : World) (loc : Nat → Option Nat) (room cnt : Nat → Int) (N : Nat) : Prop where
  fix : Fix A w
  placed : ∃ f, mapIs w Yba.prog 9 A.pm N f ∧ ∀ i, i < A.k → f (keyL (pnm i)) = (loc i).map (fun j => .string (nnm j))
  count : ∃ f, mapIs w Yba.prog 9 A.cm N f ∧ ∀ j, j < 3 → (f (keyL (nnm j))).getD (.int .i64 0) = .int .i64 (cnt j)
  rmap : ∀ j, j < 3 → w.heap[A.rb j]? = some (oneMap (room j))
  loc3 : ∀ i j, loc i = some j → j < 3
  rm : ∀ j, j < 3 → -4 * (N : Int) ≤ room j ∧ room j ≤ 255 + 4 * (N : Int)
  ct : ∀ j, j < 3 → -(N : Int) ≤ cnt j ∧ cnt j ≤ (N : Int)

section
variable {A : Ad} {w w' : World} {loc : Nat → Option Nat} {room cnt : Nat → Int} {N : Nat}

theorem Fix.lt (h : Fix A w) {b : Nat} (hb : A.sta b) : b < w.heap.size := by
  rcases hb with rfl | rfl | rfl | rfl | ⟨i, hi, rfl | rfl⟩
  · obtain ⟨_, e⟩ := h.pl; exact blk_lt e
  · exact cell_lt h.cpk
  · exact cell_lt (h.row 0 h.k0)
  · obtain ⟨_, e, _⟩ := h.rooms; exact e.lt
  · exact (h.pk.lt hi).1
  · exact (h.pk.lt hi).2

theorem Fix.of_blocks (h : Fix A w) (hb : ∀ b, A.sta b → w'.heap[b]? = w.heap[b]?) : Fix A w' := by
  refine ⟨?_, ?_, fun i hi => ?_, h.k0, h.pk.of_blocks (fun i hi => ⟨hb _ (.inr (.inr (.inr (.inr ⟨i, hi, .inl rfl⟩)))), hb _ (.inr (.inr (.inr (.inr ⟨i, hi, .inr rfl⟩))))⟩), ?_, h.sep, h.d1, h.d2, h.d3⟩
  · obtain ⟨mem, e⟩ := h.pl; exact ⟨mem, (hb _ (.inl rfl)).trans e⟩
  · rw [World.cell?_of_block (w := w) (hb _ (.inr (.inl rfl)))]; exact h.cpk
  · rw [World.cell?_of_block (w := w) (hb _ (.inr (.inr (.inl rfl))))]; exact h.row i hi
  · obtain ⟨f, e, hf⟩ := h.rooms; exact ⟨f, e.of_block (hb _ (.inr (.inr (.inr (.inl rfl))))), hf⟩

theorem Fix.upd (h : Fix A w) (hU : Upd w.heap.size A.dyn w w') : Fix A w' := h.of_blocks (fun b hb => hU.block b (h.lt hb) (h.sep b hb))

theorem Pln.below (h : Pln A w loc room cnt N) (hB : Below w.heap.size w w') : Pln A w' loc room cnt N := by
  obtain ⟨f, e, hf⟩ := h.placed
  obtain ⟨g, e', hg⟩ := h.count
  exact ⟨h.fix.upd (Upd.of_below hB), ⟨f, e.of_block (hB.block _ e.lt), hf⟩, ⟨g, e'.of_block (hB.block _ e'.lt), hg⟩, fun j hj => (hB.block _ (blk_lt (h.rmap j hj))).trans (h.rmap j hj), h.loc3, h.rm, h.ct⟩

theorem Fix.plCell (h : Fix A w) : w.cell? ⟨A.pl, 0, none⟩ = some (ptr A.c) ∧ w.cell? ⟨A.pl, 3, none⟩ = some (.map (some A.pm)) ∧ w.cell? ⟨A.pl, 4, none⟩ = some (.map (some A.rm)) ∧ w.cell? ⟨A.pl, 5, none⟩ = some (.map (some A.cm)) := by
  obtain ⟨mem, e⟩ := h.pl
  exact ⟨cell_of_blk e rfl, cell_of_blk e rfl, cell_of_blk e rfl, cell_of_blk e rfl⟩

/-- A room is looked up. -/
theorem Fix.lookRoom (h : Fix A w) {j : Nat} (hj : j < 3) : (Instr.lookup 74 (.map (some A.rm)) (.string (nnm j)) false).run Yba.prog w = .ok (.map (some (A.rb j))) w := by
  obtain ⟨f, e, hf⟩ := h.rooms
  rw [e.look law9 Yba.underlying74 (zero78 w) (key_is (nnm_size j)), hf j hj]; rfl
theorem Pln.lookPlaced (h : Pln A w loc room cnt N) {i : Nat} (hi : i < A.k) : (Instr.lookup 73 (.map (some A.pm)) (.string (pnm i)) false).run Yba.prog w = .ok (((loc i).map (fun j => Value.string (nnm j))).getD (.string ByteArray.empty)) w := by
  obtain ⟨f, e, hf⟩ := h.placed
  rw [e.look law9 Yba.underlying73 (zero9 w) (key_is (pnm_size i)), hf i hi]
theorem Pln.lookPlacedOk (h : Pln A w loc room cnt N) {i : Nat} (hi : i < A.k) : (Instr.lookup 73 (.map (some A.pm)) (.string (pnm i)) true).run Yba.prog w = .ok (.tuple #[((loc i).map (fun j => Value.string (nnm j))).getD (.string ByteArray.empty), .bool (loc i).isSome]) w := by
  obtain ⟨f, e, hf⟩ := h.placed
  rw [e.look_ok law9 Yba.underlying73 (zero9 w) (key_is (pnm_size i)), hf i hi]
  simp
theorem Pln.lookCount (h : Pln A w loc room cnt N) {j : Nat} (hj : j < 3) : (Instr.lookup 75 (.map (some A.cm)) (.string (nnm j)) false).run Yba.prog w = .ok (.int .i64 (cnt j)) w := by
  obtain ⟨f, e, hf⟩ := h.count
  rw [e.look law9 Yba.underlying75 (zero3 w) (key_is (nnm_size j)), hf j hj]
end

end Go.Proofs.Ybulkaibe
