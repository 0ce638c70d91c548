/-
  HOW A WAITGRAPH LIES IN MEMORY: which block serves what, and what the graph says.
-/
import Derived.Test.YbulkahtqFmtEdge
import Derived.Test.YbulkahtqFmtInit
import Derived.Deep.Onto
namespace Go.Proofs.YbulkahtqFmt
open Go.RowKit Go.WideMaps Go.Maps Kit

/-- What a block serves. -/
inductive Role where
  | other | graph | procs | waits | changed | idle | proc
  | rowT (p : Nat) | rowW (p : Nat)

abbrev ptrs (l : List Nat) : List Value := l.map ptr

/-- The slice v of pointers owns its row, of which the blocks serve as r; its elements are xs. -/
structure RowOf (base : Nat) (w : World) (R : Nat → Role) (r : Role) (v : Value) (n : Nat) (xs : List Value) : Prop where
  own : w.ownsRow base 68 1 v n xs
  role : ∀ b, v.ownBlock = some b → R b = r

theorem RowOf.frame {base : Nat} {w w' : World} {R R' : Nat → Role} {r : Role} {v : Value} {n : Nat} {xs : List Value} (h : RowOf base w R r v n xs) (hb : ∀ k, k < w.heap.size → R k = r → w'.heap[k]? = w.heap[k]? ∧ R' k = r) : RowOf base w' R' r v n xs :=
  ⟨own_of_block h.own (fun g hg => (hb g (h.own.lt g hg).2 (h.role g hg)).1), fun b hv => (hb b (h.own.lt b hv).2 (h.role b hv)).2⟩

/-- A process. -/
structure ProcIs (base : Nat) (w : World) (R : Nat → Role) (p : Nat) (nm : ByteArray) (T W : List Nat) : Prop where
  ex : ∃ s tv wv noted, w.heap[p]? = some (.cells #[.string nm, .string s, tv, wv, .bool noted, .int .i64 0, .int .i64 0, .int .i64 0, .int .i64 0] 102 (0, 0)) ∧ (s = ByteArray.empty ∨ s = nm) ∧
    RowOf base w R (.rowT p) tv T.length (ptrs T) ∧ RowOf base w R (.rowW p) wv W.length (ptrs W)

theorem ProcIs.frame {base : Nat} {w w' : World} {R R' : Nat → Role} {p : Nat} {nm : ByteArray} {T W : List Nat} (h : ProcIs base w R p nm T W) (hp : w'.heap[p]? = w.heap[p]?)
    (hb : ∀ k, k < w.heap.size → R k = .rowT p ∨ R k = .rowW p → w'.heap[k]? = w.heap[k]? ∧ R' k = R k) : ProcIs base w' R' p nm T W := by
  obtain ⟨s, tv, wv, noted, h1, h2, h3, h4⟩ := h.ex
  exact ⟨s, tv, wv, noted, hp.trans h1, h2, h3.frame (fun k hk e => ⟨(hb k hk (.inl e)).1, (hb k hk (.inl e)).2.trans e⟩), h4.frame (fun k hk e => ⟨(hb k hk (.inr e)).1, (hb k hk (.inr e)).2.trans e⟩)⟩

/-- The graph's own block. -/
structure GrIs (base : Nat) (w : World) (R : Nat → Role) (g pm wm N : Nat) : Prop where
  ex : ∃ (c lc li : Nat) (cv iv : Value) (xc xi : List Value), w.heap[g]? = some (.cells #[.map (some pm), .map (some wm), .int .i64 0, .int .i64 c, cv, .int .i64 0, .bool false, iv] 100 (0, 0)) ∧ c ≤ N ∧ lc ≤ N ∧ li ≤ N ∧
    RowOf base w R .changed cv lc xc ∧ RowOf base w R .idle iv li xi ∧ ∀ v ∈ xc, v.oneCell' = true

theorem GrIs.frame {base : Nat} {w w' : World} {R R' : Nat → Role} {g pm wm N N' : Nat} (h : GrIs base w R g pm wm N) (hg : w'.heap[g]? = w.heap[g]?) (hN : N ≤ N')
    (hb : ∀ k, k < w.heap.size → R k = .changed ∨ R k = .idle → w'.heap[k]? = w.heap[k]? ∧ R' k = R k) : GrIs base w' R' g pm wm N' := by
  obtain ⟨c, lc, li, cv, iv, xc, xi, h1, h2, h3, h4, h5, h6, h7⟩ := h.ex
  exact ⟨c, lc, li, cv, iv, xc, xi, hg.trans h1, by omega, by omega, by omega, h5.frame (fun k hk e => ⟨(hb k hk (.inl e)).1, (hb k hk (.inl e)).2.trans e⟩), h6.frame (fun k hk e => ⟨(hb k hk (.inr e)).1, (hb k hk (.inr e)).2.trans e⟩), h7⟩

/-- THE LAYOUT: the graph in block g says: process p (a block) is named 'nm p', waits on T p, is waited on by W p; the map of waits holds E, the map of processes pf. N bounds all that grows. -/
structure Lay (base : Nat) (w : World) (R : Nat → Role) (g pm wm : Nat) (T W : Nat → List Nat) (E : Nat × Nat → Option Nat) (nm : Nat → ByteArray) (pf : Lit → Option Value) (N : Nat) : Prop where
  hbase : base ≤ w.heap.size
  rg : R g = .graph
  rp : R pm = .procs
  rw : R wm = .waits
  gr : GrIs base w R g pm wm N
  pr : ∀ p, R p = .proc → ProcIs base w R p (nm p) (T p) (W p)
  lt : ∀ p, (T p).length ≤ N ∧ (W p).length ≤ N
  pm_is : mapIs w Ybaf.prog 9 pm N pf
  wm_is : edgeIs w wm N (fun p => R p = .proc) E
  pf1 : ∀ p, R p = .proc → (nm p).size ≤ maxLen ∧ pf (keyL (nm p)) = some (ptr p)
  pf2 : ∀ x v, pf (keyL x) = some v → ∃ p, v = ptr p ∧ R p = .proc ∧ nm p = x
  out : ∀ p, R p ≠ .proc → T p = [] ∧ W p = []
  fresh : ∀ k, w.heap.size ≤ k → R k = .other

/-- From w to w' no block that served another end has turned; what is a process stays one. -/
structure Fr (R R' : Nat → Role) (w w' : World) : Prop where
  os : w'.os = w.os
  tape : w'.tape = w.tape
  output : w'.output = w.output
  size : w.heap.size ≤ w'.heap.size
  oth : ∀ k, k < w.heap.size → R k = .other → R' k = .other ∧ w'.heap[k]? = w.heap[k]?
  prc : ∀ k, R k = .proc → R' k = .proc

theorem Fr.refl (R : Nat → Role) (w : World) : Fr R R w w := ⟨rfl, rfl, rfl, Nat.le_refl _, fun _ _ h => ⟨h, rfl⟩, fun _ h => h⟩
theorem Fr.trans {R R' R'' : Nat → Role} {w w' w'' : World} (h : Fr R R' w w') (h' : Fr R' R'' w' w'') : Fr R R'' w w'' :=
  ⟨h'.os.trans h.os, h'.tape.trans h.tape, h'.output.trans h.output, Nat.le_trans h.size h'.size, fun k hk hr => by
    obtain ⟨a, b⟩ := h.oth k hk hr
    obtain ⟨c, d⟩ := h'.oth k (Nat.lt_of_lt_of_le hk h.size) a
    exact ⟨c, d.trans b⟩, fun k hk => h'.prc k (h.prc k hk)⟩

section
variable {base : Nat} {w w' : World} {R : Nat → Role} {g pm wm : Nat} {T W : Nat → List Nat} {E : Nat × Nat → Option Nat} {nm : Nat → ByteArray} {pf : Lit → Option Value} {N : Nat}

theorem Lay.cells (h : Lay base w R g pm wm T W E nm pf N) {p : Nat} (hp : R p = .proc) : IsCells w p := by
  obtain ⟨s, tv, wv, noted, h1, _⟩ := (h.pr p hp).ex
  exact ⟨_, _, h1⟩
theorem Lay.blt (h : Lay base w R g pm wm T W E nm pf N) {p : Nat} (hp : R p ≠ .other) : p < w.heap.size := by
  rcases Nat.lt_or_ge p w.heap.size with h' | h'
  · exact h'
  · exact absurd (h.fresh p h') hp

/-- Blocks that serve other ends turn as they will. -/
theorem Lay.frame (h : Lay base w R g pm wm T W E nm pf N) (hz : w.heap.size ≤ w'.heap.size) (hb : ∀ k, k < w.heap.size → R k ≠ .other → w'.heap[k]? = w.heap[k]?) {N' : Nat} (hN : N ≤ N') : Lay base w' R g pm wm T W E nm pf N' := by
  have hh : ∀ k, R k ≠ .other → w'.heap[k]? = w.heap[k]? := fun k hk => hb k (h.blt hk) hk
  exact ⟨Nat.le_trans h.hbase hz, h.rg, h.rp, h.rw, h.gr.frame (hh g (by rw [h.rg]; nofun)) hN (fun k _ e => ⟨hh k (by rcases e with e | e <;> rw [e] <;> nofun), rfl⟩),
    fun p hp => (h.pr p hp).frame (hh p (by rw [hp]; nofun)) (fun k _ e => ⟨hh k (by rcases e with e | e <;> rw [e] <;> nofun), rfl⟩),
    fun p => ⟨Nat.le_trans (h.lt p).1 hN, Nat.le_trans (h.lt p).2 hN⟩, (h.pm_is.of_block (hh pm (by rw [h.rp]; nofun))).mono hN, (h.wm_is.of_block (hh wm (by rw [h.rw]; nofun))).mono hN,
    h.pf1, h.pf2, h.out, fun k hk => h.fresh k (Nat.le_trans hz hk)⟩

theorem Lay.alloc (h : Lay base w R g pm wm T W E nm pf N) (o : Obj) : Lay base (w.alloc o) R g pm wm T W E nm pf N :=
  h.frame (by simp) (fun k hk _ => blk_old _ _ hk) (Nat.le_refl _)

/-- f, with v at p. -/
def updF {α : Type} (f : Nat → α) (p : Nat) (v : α) : Nat → α := fun k => if k = p then v else f k
theorem updF_same {α : Type} (f : Nat → α) (p : Nat) (v : α) : updF f p v p = v := by simp [updF]
theorem updF_other {α : Type} (f : Nat → α) {p k : Nat} (v : α) (h : k ≠ p) : updF f p v k = f k := by simp [updF, h]

/-- A process has turned, it and its rows alone. -/
theorem Lay.turnProc (h : Lay base w R g pm wm T W E nm pf N) {R' : Nat → Role} {p N' : Nat} {T' W' : List Nat} (hp : R p = .proc) (hz : w.heap.size ≤ w'.heap.size) (hpr : ∀ k, R' k = .proc ↔ R k = .proc) (hfresh : ∀ k, w'.heap.size ≤ k → R' k = .other)
    (hb : ∀ k, k < w.heap.size → R k ≠ .other → k ≠ p → R k ≠ .rowT p → R k ≠ .rowW p → w'.heap[k]? = w.heap[k]? ∧ R' k = R k)
    (hP : ProcIs base w' R' p (nm p) T' W') (hT : T'.length ≤ N') (hW : W'.length ≤ N') (hN : N ≤ N') : Lay base w' R' g pm wm (updF T p T') (updF W p W') E nm pf N' := by
  have hh : ∀ k, R k ≠ .other → k ≠ p → R k ≠ .rowT p → R k ≠ .rowW p → w'.heap[k]? = w.heap[k]? ∧ R' k = R k := fun k hk => hb k (h.blt hk) hk
  have ne : ∀ {k : Nat}, R k ≠ .proc → k ≠ p := fun hk e => hk (e ▸ hp)
  have hG := hh g (by rw [h.rg]; nofun) (ne (by rw [h.rg]; nofun)) (by rw [h.rg]; nofun) (by rw [h.rg]; nofun)
  have hPm := hh pm (by rw [h.rp]; nofun) (ne (by rw [h.rp]; nofun)) (by rw [h.rp]; nofun) (by rw [h.rp]; nofun)
  have hWm := hh wm (by rw [h.rw]; nofun) (ne (by rw [h.rw]; nofun)) (by rw [h.rw]; nofun) (by rw [h.rw]; nofun)
  refine ⟨Nat.le_trans h.hbase hz, hG.2.trans h.rg, hPm.2.trans h.rp, hWm.2.trans h.rw, h.gr.frame hG.1 hN (fun k _ e => ?_), fun q hq => ?_, fun q => ?_, (h.pm_is.of_block hPm.1).mono hN, ((h.wm_is.of_block hWm.1).mono hN).weaken (fun q hq => (hpr q).2 hq), fun q hq => h.pf1 q ((hpr q).1 hq), fun x v hx => ?_, fun q hq => ?_, hfresh⟩
  · exact hh k (by rcases e with e | e <;> rw [e] <;> nofun) (ne (by rcases e with e | e <;> rw [e] <;> nofun)) (by rcases e with e | e <;> rw [e] <;> nofun) (by rcases e with e | e <;> rw [e] <;> nofun)
  · by_cases hqp : q = p
    · subst hqp; rw [updF_same, updF_same]; exact hP
    · rw [updF_other _ _ hqp, updF_other _ _ hqp]
      have hq0 := (hpr q).1 hq
      refine (h.pr q hq0).frame (hh q (by rw [hq0]; nofun) hqp (by rw [hq0]; nofun) (by rw [hq0]; nofun)).1 (fun k _ e => ?_)
      refine hh k (by rcases e with e | e <;> rw [e] <;> nofun) (ne (by rcases e with e | e <;> rw [e] <;> nofun)) ?_ ?_
      · rcases e with e | e <;> rw [e]
        · simpa using hqp
        · nofun
      · rcases e with e | e <;> rw [e]
        · nofun
        · simpa using hqp
  · by_cases hqp : q = p
    · subst hqp; rw [updF_same, updF_same]; exact ⟨hT, hW⟩
    · rw [updF_other _ _ hqp, updF_other _ _ hqp]; exact ⟨Nat.le_trans (h.lt q).1 hN, Nat.le_trans (h.lt q).2 hN⟩
  · obtain ⟨q, e1, e2, e3⟩ := h.pf2 x v hx
    exact ⟨q, e1, (hpr q).2 e2, e3⟩
  · have hq0 : R q ≠ .proc := fun e => hq ((hpr q).2 e)
    rw [updF_other _ _ (ne hq0), updF_other _ _ (ne hq0)]; exact h.out q hq0

/-- The graph's block has turned, it and its two rows alone. -/
theorem Lay.turnGr (h : Lay base w R g pm wm T W E nm pf N) {R' : Nat → Role} {N' : Nat} (hz : w.heap.size ≤ w'.heap.size) (hpr : ∀ k, R' k = .proc ↔ R k = .proc) (hfresh : ∀ k, w'.heap.size ≤ k → R' k = .other) (hg : R' g = .graph)
    (hb : ∀ k, k < w.heap.size → R k ≠ .other → k ≠ g → R k ≠ .changed → R k ≠ .idle → w'.heap[k]? = w.heap[k]? ∧ R' k = R k)
    (hG : GrIs base w' R' g pm wm N') (hN : N ≤ N') : Lay base w' R' g pm wm T W E nm pf N' := by
  have hh : ∀ k, R k ≠ .other → k ≠ g → R k ≠ .changed → R k ≠ .idle → w'.heap[k]? = w.heap[k]? ∧ R' k = R k := fun k hk => hb k (h.blt hk) hk
  have ne : ∀ {k : Nat}, R k ≠ .graph → k ≠ g := fun hk e => hk (e ▸ h.rg)
  have hPm := hh pm (by rw [h.rp]; nofun) (ne (by rw [h.rp]; nofun)) (by rw [h.rp]; nofun) (by rw [h.rp]; nofun)
  have hWm := hh wm (by rw [h.rw]; nofun) (ne (by rw [h.rw]; nofun)) (by rw [h.rw]; nofun) (by rw [h.rw]; nofun)
  refine ⟨Nat.le_trans h.hbase hz, hg, hPm.2.trans h.rp, hWm.2.trans h.rw, hG, fun q hq => ?_, fun q => ⟨Nat.le_trans (h.lt q).1 hN, Nat.le_trans (h.lt q).2 hN⟩, (h.pm_is.of_block hPm.1).mono hN, ((h.wm_is.of_block hWm.1).mono hN).weaken (fun q hq => (hpr q).2 hq), fun q hq => h.pf1 q ((hpr q).1 hq), fun x v hx => ?_, fun q hq => h.out q (fun e => hq ((hpr q).2 e)), hfresh⟩
  · have hq0 := (hpr q).1 hq
    refine (h.pr q hq0).frame (hh q (by rw [hq0]; nofun) (ne (by rw [hq0]; nofun)) (by rw [hq0]; nofun) (by rw [hq0]; nofun)).1 (fun k _ e => ?_)
    exact hh k (by rcases e with e | e <;> rw [e] <;> nofun) (ne (by rcases e with e | e <;> rw [e] <;> nofun)) (by rcases e with e | e <;> rw [e] <;> nofun) (by rcases e with e | e <;> rw [e] <;> nofun)
  · obtain ⟨q, e1, e2, e3⟩ := h.pf2 x v hx
    exact ⟨q, e1, (hpr q).2 e2, e3⟩

/-- The map of waits has turned, alone. -/
theorem Lay.turnWaits (h : Lay base w R g pm wm T W E nm pf N) {N' : Nat} {E' : Nat × Nat → Option Nat} (ht : w.mapTurned w' wm) (hE : edgeIs w' wm N' (fun p => R p = .proc) E') (hN : N ≤ N') : Lay base w' R g pm wm T W E' nm pf N' := by
  have hb : ∀ k, R k ≠ .waits → w'.heap[k]? = w.heap[k]? := fun k hk => turned_block ht (fun e => hk (e ▸ h.rw))
  have hz := turned_size ht
  exact ⟨Nat.le_trans h.hbase hz, h.rg, h.rp, h.rw, h.gr.frame (hb g (by rw [h.rg]; nofun)) hN (fun k _ e => ⟨hb k (by rcases e with e | e <;> rw [e] <;> nofun), rfl⟩),
    fun p hp => (h.pr p hp).frame (hb p (by rw [hp]; nofun)) (fun k _ e => ⟨hb k (by rcases e with e | e <;> rw [e] <;> nofun), rfl⟩),
    fun p => ⟨Nat.le_trans (h.lt p).1 hN, Nat.le_trans (h.lt p).2 hN⟩, (h.pm_is.of_block (hb pm (by rw [h.rp]; nofun))).mono hN, hE,
    h.pf1, h.pf2, h.out, fun k hk => h.fresh k (Nat.le_trans hz hk)⟩
end

/-- Where the slice that 'append' gives lies, by roles. -/
theorem role_append {base : Nat} {w w1 : World} {R : Nat → Role} {r : Role} {v v' : Value} {n : Nat} {xs : List Value} {x : Value} {o : Obj} (hf : ∀ k, w.heap.size ≤ k → R k = .other) (h : RowOf base w R r v n xs)
    (hown : w1.ownsRow base 68 1 v' (n + 1) (xs ++ [x])) (hgrow : (w.alloc o).grownBy w1 v.ownBlock) (hat : v'.ownBlock = v.ownBlock ∨ v'.ownBlock = some (w.alloc o).heap.size) :
    ∃ R' : Nat → Role, RowOf base w1 R' r v' (n + 1) (xs ++ [x]) ∧ (∀ k, R' k = R k ∨ (R' k = r ∧ R k = .other)) ∧ (∀ k, k < w.heap.size → R' k = R k) ∧ (∀ k, w1.heap.size ≤ k → R' k = .other) ∧ (∀ k, k < w.heap.size → R k ≠ r → w1.heap[k]? = w.heap[k]?) ∧ w.heap.size ≤ w1.heap.size ∧
      w1.os = w.os ∧ w1.tape = w.tape ∧ w1.output = w.output := by
  have hz := hgrow.size
  simp only [World.size_alloc] at hz hat
  have hblk : ∀ k, k < w.heap.size → R k ≠ r → w1.heap[k]? = w.heap[k]? := fun k hk hr => by
    rw [hgrow.block k (by simp; omega) (fun e => hr (h.role k e.symm)), blk_old _ _ hk]
  rcases hat with hat | hat
  · exact ⟨R, ⟨hown, fun b hb => h.role b (hat ▸ hb)⟩, fun _ => .inl rfl, fun _ _ => rfl, fun k hk => hf k (by omega), hblk, by omega, hgrow.os, hgrow.tape, hgrow.output⟩
  · have hl := (hown.lt _ hat).2
    refine ⟨fun k => if k = w.heap.size + 1 then r else R k, ⟨hown, fun b hb => ?_⟩, fun k => ?_, fun k hk => ?_, fun k hk => ?_, hblk, by omega, hgrow.os, hgrow.tape, hgrow.output⟩
    · rw [hat] at hb; cases hb; simp
    · by_cases hk : k = w.heap.size + 1
      · right; simp only [hk, if_true, true_and]; exact hf _ (by omega)
      · left; simp [hk]
    · have : k ≠ w.heap.size + 1 := by omega
      simp [this]
    · have : k ≠ w.heap.size + 1 := by omega
      simp only [this, if_false]; exact hf k (by omega)

end Go.Proofs.YbulkahtqFmt
