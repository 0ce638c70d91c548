/-
  SMALL TOOLS of whatever program: a map of the call's own told by a function of the key; which blocks a call may have turned.
-/
import Derived.WalkKit
import Derived.Maps.OwnSet
import Derived.Deep.OwnRows
namespace Go.Proofs.Ybulkaibe.Kit
open Go Go.RowKit Go.Deep

theorem hide {p : Prop} (h : p) : Hid p := h
theorem unhide {p : Prop} (h : Hid p) : p := h

/-! ### A map, told by a function of the key: whatever its elements are -/
/-- Every element reads as itself. -/
def anyElem (v : Value) : Option (DataW Value × List MemPlace) := some (.held v, [])

/-- Block b is a map of at most n entries; at the key kl it holds 'f kl'. -/
def mapIs (w : World) (P : Program) (k : TypeId) (b n : Nat) (f : Lit → Option Value) : Prop :=
  ∃ D : DataW Value, w.ownsMap P k anyElem b n D ∧ ∀ kl, Maps.has D kl = (f kl).isSome ∧ ∀ z, D.atKey kl (.held z) = .held ((f kl).getD z)

section
variable {P : Program} {w w' : World} {k : TypeId} {b n : Nat} {f : Lit → Option Value}

theorem mapIs_made (w : World) (P : Program) (k : TypeId) : mapIs (w.alloc (.map #[] 0)) P k w.heap.size 0 (fun _ => none) :=
  ⟨.map [], World.ownsMap_made w P k anyElem, fun _ => ⟨rfl, fun _ => rfl⟩⟩

theorem mapIs.of_block (h : mapIs w P k b n f) (e : w'.heap[b]? = w.heap[b]?) : mapIs w' P k b n f := by
  obtain ⟨D, ⟨es, clock, hb, F, hs, hD⟩, hf⟩ := h
  exact ⟨D, ⟨es, clock, e.trans hb, F, hs, hD⟩, hf⟩

theorem mapIs.lt (h : mapIs w P k b n f) : b < w.heap.size := by
  obtain ⟨D, ho, _⟩ := h; exact ho.lt

theorem mapIs.mono (h : mapIs w P k b n f) {n' : Nat} (hn : n ≤ n') : mapIs w P k b n' f := by
  obtain ⟨D, ho, hf⟩ := h; exact ⟨D, ho.mono hn, hf⟩

theorem mapIs.congr (h : mapIs w P k b n f) {g : Lit → Option Value} (e : ∀ kl, f kl = g kl) : mapIs w P k b n g := by
  obtain ⟨D, ho, hf⟩ := h; exact ⟨D, ho, fun kl => by rw [← e]; exact hf kl⟩

theorem mapIs.look (h : mapIs w P k b n f) {t e : TypeId} (K : Maps.Keyed P k) (ht : P.underlying t = some (.map k e)) {z : Value} (hz : (zeroValue e).run P w = .ok z w) {key : Value} {kl : Lit} (hkey : keyOf P k key = some kl) :
    (Instr.lookup t (.map (some b)) key false).run P w = .ok ((f kl).getD z) w := by
  obtain ⟨D, ho, hf⟩ := h
  obtain ⟨v, ps, hrun, hv⟩ := ho.lookup K ht hz (show anyElem z = some (.held z, []) from rfl) hkey
  rw [(hf kl).2 z] at hv
  simp only [anyElem, Option.some.injEq, Prod.mk.injEq, DataW.held.injEq] at hv
  rw [hrun, hv.1]

theorem mapIs.look_ok (h : mapIs w P k b n f) {t e : TypeId} (K : Maps.Keyed P k) (ht : P.underlying t = some (.map k e)) {z : Value} (hz : (zeroValue e).run P w = .ok z w) {key : Value} {kl : Lit} (hkey : keyOf P k key = some kl) :
    (Instr.lookup t (.map (some b)) key true).run P w = .ok (.tuple #[(f kl).getD z, .bool (f kl).isSome]) w := by
  obtain ⟨D, ho, hf⟩ := h
  obtain ⟨v, ps, hrun, hv⟩ := ho.look_ok K ht hz (show anyElem z = some (.held z, []) from rfl) hkey
  rw [(hf kl).2 z] at hv
  simp only [anyElem, Option.some.injEq, Prod.mk.injEq, DataW.held.injEq] at hv
  rw [hrun, hv.1, (hf kl).1]

/-- What a store makes of the function. -/
def upd (f : Lit → Option Value) (kl : Lit) (v : Option Value) : Lit → Option Value := fun x => if x.sameKey kl then v else f x
theorem upd_same (f : Lit → Option Value) {kl : Lit} (hl : WideAt.IsKeyLit kl) (v : Option Value) : upd f kl v kl = v := by simp [upd, WideAt.sameKey_self hl]
theorem upd_other (f : Lit → Option Value) {kl x : Lit} (v : Option Value) (h : x ≠ kl) : upd f kl v x = f x := by simp [upd, Maps.sameKey_ne h]

theorem mapIs.put (h : mapIs w P k b n f) {t e : TypeId} (K : Maps.Keyed P k) (ht : P.underlying t = some (.map k e)) (hn : n < maxLen) {key : Value} (val : Value) {kl : Lit} (hkey : keyOf P k key = some kl) (hl : WideAt.IsKeyLit kl) :
    ∃ w', (Instr.mapUpdate t (.map (some b)) key val).run P w = .ok () w' ∧ mapIs w' P k b (n + 1) (upd f kl (some val)) ∧ w.mapTurned w' b := by
  obtain ⟨D, ho, hf⟩ := h
  obtain ⟨w', hrun, ho', ht'⟩ := ho.store K ht hn hkey (show anyElem val = some (.held val, []) from rfl)
  refine ⟨w', hrun, ⟨_, ho', fun x => ?_⟩, ht'⟩
  by_cases hx : x = kl
  · subst hx
    rw [upd_same _ hl]
    exact ⟨Maps.has_put_same ho.isMap hl _, fun z => Maps.atKey_put_same ho.isMap hl _ _⟩
  · rw [upd_other _ _ hx, Maps.has_put_other hx]
    exact ⟨(hf x).1, fun z => by rw [Maps.atKey_put_other hx]; exact (hf x).2 z⟩

theorem mapIs.del (h : mapIs w P k b n f) {t e : TypeId} (K : Maps.Keyed P k) (ht : P.underlying t = some (.map k e)) {key : Value} {kl : Lit} (hkey : keyOf P k key = some kl) (hl : WideAt.IsKeyLit kl) (ty : TypeId) :
    ∃ w', (Builtin.delete_ #[t, k] ty #[.map (some b), key]).run P w = .ok (.tuple #[]) w' ∧ mapIs w' P k b n (upd f kl none) ∧ w.mapTurned w' b := by
  obtain ⟨D, ho, hf⟩ := h
  obtain ⟨w', hrun, ho', ht'⟩ := ho.drop K ht hkey ty
  refine ⟨w', hrun, ⟨_, ho', fun x => ?_⟩, ht'⟩
  by_cases hx : x = kl
  · subst hx
    rw [upd_same _ hl, Maps.has_del_same]
    exact ⟨rfl, fun z => Maps.atKey_del_same _⟩
  · rw [upd_other _ _ hx, Maps.has_del_other hx]
    exact ⟨(hf x).1, fun z => by rw [Maps.atKey_del_other hx]; exact (hf x).2 z⟩
end

/-! ### at the operation, for the walk -/
section
variable {P : Program} (w : World) {ops : Array Oper} {rest : List Oper} {o : Oper} {a : Act} {Q : Exit → Act → World → Prop}

theorem wpList_look_is (hg : o.guard = none) (m x : Operand) (t : TypeId) (hop : o.op = Op.lookup t m x false)
    (k e : TypeId) (K : Maps.Keyed P k) (ht : P.underlying t = some (.map k e)) {z : Value} (hz : (zeroValue e).run P w = .ok z w) {b n : Nat} {f : Lit → Option Value}
    (hm : a.eval m = .map (some b)) (h : mapIs w P k b n f) {key : Value} {kl : Lit} (hx : a.eval x = key) (hkey : keyOf P k key = some kl)
    (hK : wpList P ops Q rest (a.put o.dst ((f kl).getD z)) w) : wpList P ops Q (o :: rest) a w := by
  refine wpList_plain hg fun K' hK' => ?_
  have hrun := h.look K ht hz hkey
  unfold Oper.wp
  simp [execOp, hop, hm, hx, hrun, Result.andThen]
  exact hK' _ _ hK

theorem wpList_look_ok_is (hg : o.guard = none) (m x : Operand) (t : TypeId) (hop : o.op = Op.lookup t m x true)
    (k e : TypeId) (K : Maps.Keyed P k) (ht : P.underlying t = some (.map k e)) {z : Value} (hz : (zeroValue e).run P w = .ok z w) {b n : Nat} {f : Lit → Option Value}
    (hm : a.eval m = .map (some b)) (h : mapIs w P k b n f) {key : Value} {kl : Lit} (hx : a.eval x = key) (hkey : keyOf P k key = some kl)
    (hK : wpList P ops Q rest (a.put o.dst (.tuple #[(f kl).getD z, .bool (f kl).isSome])) w) : wpList P ops Q (o :: rest) a w := by
  refine wpList_plain hg fun K' hK' => ?_
  have hrun := h.look_ok K ht hz hkey
  unfold Oper.wp
  simp [execOp, hop, hm, hx, hrun, Result.andThen]
  exact hK' _ _ hK

theorem wpList_put_is (hg : o.guard = none) (m x v : Operand) (t : TypeId) (hop : o.op = Op.mapUpdate t m x v)
    (k e : TypeId) (K : Maps.Keyed P k) (ht : P.underlying t = some (.map k e)) {b n : Nat} {f : Lit → Option Value}
    (hm : a.eval m = .map (some b)) (h : mapIs w P k b n f) (hn : n < maxLen) {key val : Value} {kl : Lit} (hx : a.eval x = key) (hv : a.eval v = val) (hkey : keyOf P k key = some kl) (hl : WideAt.IsKeyLit kl)
    (hK : ∀ w', mapIs w' P k b (n + 1) (upd f kl (some val)) → w.mapTurned w' b → wpList P ops Q rest (a.put o.dst undef) w') : wpList P ops Q (o :: rest) a w := by
  refine wpList_plain hg fun K' hK' => ?_
  obtain ⟨w', hrun, r1, r2⟩ := h.put K ht hn val hkey hl
  unfold Oper.wp
  simp [execOp, hop, hm, hx, hv, hrun, Result.andThen]
  exact hK' _ _ (hK w' r1 r2)

theorem wpList_del_is (hg : o.guard = none) (m x : Operand) (t k : TypeId) (hop : o.op = Op.call { callee := Callee.builtin Builtin.delete, args := #[m, x], argTypes := #[t, k] })
    (e : TypeId) (K : Maps.Keyed P k) (ht : P.underlying t = some (.map k e)) {b n : Nat} {f : Lit → Option Value}
    (hm : a.eval m = .map (some b)) (h : mapIs w P k b n f) {key : Value} {kl : Lit} (hx : a.eval x = key) (hkey : keyOf P k key = some kl) (hl : WideAt.IsKeyLit kl)
    (hK : ∀ w', mapIs w' P k b n (upd f kl none) → w.mapTurned w' b → wpList P ops Q rest (a.put o.dst (.tuple #[])) w') : wpList P ops Q (o :: rest) a w := by
  refine wpList_plain hg fun K' hK' => ?_
  obtain ⟨w', hrun, r1, r2⟩ := h.del K ht hkey hl o.type
  unfold Oper.wp
  simp [execOp, hop, resolve, invoke, builtin, hm, hx, hrun, Result.andThen]
  exact hK' _ _ (hK w' r1 r2)
end

theorem head_first {α : Type} (x : α) (l : Array α) : (#[x] ++ l)[0]? = some x := by
  rw [Array.getElem?_append_left (by simp)]; rfl
theorem head_rest {α : Type} (x : α) (l : Array α) : (#[x] ++ l).extract 1 (#[x] ++ l).size = l := by
  apply Array.ext'; simp

/-- A METHOD CALLED ON AN INTERFACE VALUE whose dynamic type is known, by the method's contract. -/
theorem wpList_invoke {P : Program} (w : World) {ops : Array Oper} {rest : List Oper} {o : Oper} {a : Act} {Q : Exit → Act → World → Prop} (hg : o.guard = none) (recv : Operand) (name : String) (args : Array Operand) (ats : Array TypeId)
    (hop : o.op = Op.call { callee := Callee.invoke recv name, args := args, argTypes := ats }) (t : TypeId) (v : Value) (hr : a.eval recv = .iface t v) (f : FuncId) (vs : Array Value)
    (hrun : ∀ w, (callMethod (.iface t v) name (args.map a.eval)).run P w = .ok (.enter f vs) w)
    (h : Calls P f vs w fun e w' => ∃ x, e = .returned x ∧ wpList P ops Q rest (a.put o.dst x) w') : wpList P ops Q (o :: rest) a w := by
  refine wpList_plain hg fun K hK => ?_
  have he : (execOp a.eval o).run P w = .ok (.enter f vs) w := by
    have : execOp a.eval o = invoke (.fn (.method name) #[]) (#[a.eval recv] ++ args.map a.eval) := by
      unfold execOp; rw [hop]; rfl
    rw [this, hr]
    unfold invoke
    simp only [head_first]
    rw [head_rest]
    exact hrun w
  unfold Oper.wp
  rw [he, Oper.upon_enter]
  refine h.mono fun e w'' hh => ?_
  obtain ⟨x, rfl, hx⟩ := hh
  exact hK _ _ hx

/-! ### Which blocks may have turned -/
/-- Below B nothing has turned but, perhaps, the blocks on T. -/
structure Upd (B : Nat) (T : List Nat) (w w' : World) : Prop where
  os : w'.os = w.os
  tape : w'.tape = w.tape
  output : w'.output = w.output
  size : w.heap.size ≤ w'.heap.size
  block : ∀ k, k < B → k ∉ T → w'.heap[k]? = w.heap[k]?

namespace Upd
variable {B : Nat} {T : List Nat} {w w' w'' : World}
theorem refl (B : Nat) (T : List Nat) (w : World) : Upd B T w w := ⟨rfl, rfl, rfl, Nat.le_refl _, fun _ _ _ => rfl⟩
theorem trans (h : Upd B T w w') (h' : Upd B T w' w'') : Upd B T w w'' :=
  ⟨h'.os.trans h.os, h'.tape.trans h.tape, h'.output.trans h.output, Nat.le_trans h.size h'.size, fun k hk ht => (h'.block k hk ht).trans (h.block k hk ht)⟩
theorem mono (h : Upd B T w w') {B' : Nat} {T' : List Nat} (hB : B' ≤ B) (hT : ∀ k, k < B' → k ∈ T → k ∈ T') : Upd B' T' w w' :=
  ⟨h.os, h.tape, h.output, h.size, fun k hk ht => h.block k (by omega) (fun h1 => ht (hT k hk h1))⟩
theorem of_below (h : Below B w w') : Upd B T w w' := ⟨h.os, h.tape, h.output, h.size, fun k hk _ => h.block k hk⟩
theorem below (h : Upd B [] w w') : Below B w w' := ⟨h.os, h.tape, h.output, h.size, fun k hk => h.block k hk (by simp)⟩
theorem of_turned {b : Nat} (h : w.mapTurned w' b) (hb : b ∈ T ∨ B ≤ b) : Upd B T w w' := by
  have hg := h.grown
  refine ⟨hg.os, hg.tape, hg.output, hg.size, fun k hk ht => ?_⟩
  obtain ⟨es, clock, es', clock', hbk, rfl⟩ := h
  refine Go.ChangeMaps.heap_setBlock_other hbk _ (fun e => ?_)
  rcases hb with hb | hb
  · exact ht (e ▸ hb)
  · omega
theorem of_grown {row : Option Nat} (h : w.grownBy w' row) (hB : B ≤ w.heap.size) (hr : ∀ k, row = some k → B ≤ k) : Upd B T w w' :=
  ⟨h.os, h.tape, h.output, h.size, fun k hk _ => h.block k (by omega) (fun e => by have := hr k e.symm; omega)⟩
theorem of_alloc (o : Obj) (hB : B ≤ w.heap.size) : Upd B T w (w.alloc o) := of_below ((Below.refl _ _).alloc hB _)
theorem of_set (w : World) (p : Addr) (v : Value) (h : p.block ∈ T ∨ B ≤ p.block) : Upd B T w (w.setCell p v) :=
  ⟨rfl, rfl, rfl, by simp [World.setCell], fun k hk ht => Below.heap_setCell _ _ _ _ (fun e => by
    rcases h with h | h
    · exact ht (e ▸ h)
    · omega)⟩
theorem cell (h : Upd B T w w') {p : Addr} (hp : p.block < B) (ht : p.block ∉ T) : w'.cell? p = w.cell? p := World.cell?_of_block (w := w) (h.block p.block hp ht)
theorem frozen (h : Upd B T w w') {p : Addr} (hp : p.block < B) (ht : p.block ∉ T) : w'.frozen? p = w.frozen? p := World.frozen?_of_block (w := w) (h.block p.block hp ht)
end Upd

theorem cell_lt {w : World} {b o : Nat} {v : Value} (h : w.cell? ⟨b, o, none⟩ = some v) : b < w.heap.size := by
  rcases Nat.lt_or_ge b w.heap.size with h' | h'
  · exact h'
  · simp [World.cell?, Array.getElem?_eq_none h'] at h

theorem turned_block {w w' : World} {b x : Nat} (h : w.mapTurned w' b) (hx : x ≠ b) : w'.heap[x]? = w.heap[x]? := by
  obtain ⟨es, clock, es', clock', hbk, rfl⟩ := h
  exact Go.ChangeMaps.heap_setBlock_other hbk _ hx
theorem turned_size {w w' : World} {b : Nat} (h : w.mapTurned w' b) : w.heap.size ≤ w'.heap.size := h.grown.size

theorem cell_of_blk {w : World} {b i : Nat} {c : Array Value} {t : TypeId} {fz : Nat × Nat} {v : Value} (h : w.heap[b]? = some (.cells c t fz)) (hv : c[i]? = some v) : w.cell? ⟨b, i, none⟩ = some v := by
  simp [World.cell?, h, hv]
theorem frozen_of_blk {w : World} {b : Nat} {c : Array Value} {t : TypeId} (h : w.heap[b]? = some (.cells c t (0, 0))) (i : Nat) : w.frozen? ⟨b, i, none⟩ = false := by
  simp [World.frozen?, h]

theorem blk_new (w : World) (o : Obj) : (w.alloc o).heap[w.heap.size]? = some o := by
  show (w.heap.push o)[w.heap.size]? = _
  simp
theorem blk_old (w : World) (o : Obj) {b : Nat} (h : b < w.heap.size) : (w.alloc o).heap[b]? = w.heap[b]? := Below.heap_alloc w o b h
theorem set_other (w : World) {p : Addr} {k : Nat} (v : Value) (h : k ≠ p.block) : (w.setCell p v).heap[k]? = w.heap[k]? := Below.heap_setCell _ _ _ _ h
theorem set_size (w : World) (p : Addr) (v : Value) : (w.setCell p v).heap.size = w.heap.size := by simp [World.setCell]

theorem own_slice {w : World} {base : Nat} {e : TypeId} {size : Nat} {v : Value} {n : Nat} {xs : List Value} (h : w.ownsRow base e size v n xs) : ∃ a c, v = .slice a n c := by
  rcases h.2 with ⟨rfl, rfl⟩ | ⟨g, cap, cur, rfl, _⟩
  · exact ⟨_, _, rfl⟩
  · exact ⟨_, _, rfl⟩
theorem own_of_block {w w' : World} {base : Nat} {e : TypeId} {size : Nat} {v : Value} {n : Nat} {xs : List Value} (h : w.ownsRow base e size v n xs) (hb : ∀ g, v.ownBlock = some g → w'.heap[g]? = w.heap[g]?) : w'.ownsRow base e size v n xs := by
  refine ⟨h.1, ?_⟩
  rcases h.2 with h2 | ⟨g, cap, cur, rfl, h1, h2, h3⟩
  · exact .inl h2
  · exact .inr ⟨g, cap, cur, rfl, h1, (hb g rfl).trans h2, h3⟩
theorem own_ne {w : World} {base e size n : Nat} {v : Value} {xs : List Value} (h : w.ownsRow base e size v n xs) {b : Nat} (hb : v.ownBlock = some b) : ∃ cur, w.heap[b]? = some (.cells cur e) := by
  rcases h.2 with ⟨rfl, _⟩ | ⟨g, cap, cur, rfl, _, h2, _⟩
  · cases hb
  · cases hb; exact ⟨cur, h2⟩
theorem own_apart {w : World} {base e e' size size' n n' : Nat} {v v' : Value} {xs xs' : List Value} (h : w.ownsRow base e size v n xs) (h' : w.ownsRow base e' size' v' n' xs') (he : e ≠ e') {b : Nat} (hb : v.ownBlock = some b) : some b ≠ v'.ownBlock := fun hb' => by
  obtain ⟨_, h1⟩ := own_ne h hb
  obtain ⟨_, h2⟩ := own_ne h' hb'.symm
  rw [h1] at h2
  simp only [Option.some.injEq, Obj.cells.injEq] at h2
  exact he h2.2.1
theorem own_at0 {w : World} {base e size n c : Nat} {a : Option Addr} {xs : List Value} (h : w.ownsRow base e size (.slice a n c) n xs) (hn : 0 < n) : ∃ b, a = some ⟨b, 0, none⟩ ∧ base ≤ b ∧ b < w.heap.size ∧ ∀ j v, xs[j]? = some v → w.cell? ⟨b, j, none⟩ = some v := by
  rcases h.2 with ⟨_, e⟩ | ⟨gb, cap, cur, e, _⟩
  · omega
  · simp only [Value.slice.injEq] at e
    obtain ⟨rfl, _, rfl⟩ := e
    have hl := h.lt gb rfl
    refine ⟨gb, rfl, hl.1, hl.2, fun j v hj => ?_⟩
    have hjl := (List.getElem?_eq_some_iff.1 hj).1
    rw [h.1] at hjl
    rw [h.cellAt j hjl, hj]

/-- The key of a string. -/
abbrev keyL (p : ByteArray) : Lit := .string p.data.toList
theorem keyL_is (p : ByteArray) : WideAt.IsKeyLit (keyL p) := trivial
theorem keyL_inj {a b : ByteArray} (h : keyL a = keyL b) : a = b := by
  cases a; cases b
  simp only [keyL, Lit.string.injEq] at h
  simp only [ByteArray.mk.injEq]
  exact Array.toList_inj.1 h
theorem str_same' (s t : ByteArray) : (s.toList == t.toList) = decide (s = t) := by
  rw [Bool.eq_iff_iff, beq_iff_eq, decide_eq_true_iff, ByteArray.toList_eq, ByteArray.toList_eq]
  constructor
  · intro h
    cases s; cases t
    simp only [ByteArray.mk.injEq]
    exact Array.toList_inj.1 h
  · rintro rfl; rfl
abbrev ptr (p : Nat) : Value := .pointer (some ⟨p, 0, none⟩)

end Go.Proofs.Ybulkaibe.Kit
