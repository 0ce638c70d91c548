/-
  A MAP WHOSE KEYS ARE PAIRS OF POINTERS (waitgraph's 'map[edge]int'), told by a function of the two blocks.
-/
import Derived.Test.YbulkahtqFmtSmall
import Derived.LaidEqlPtr
import Derived.WideKeyRuns
import Derived.Laws.StructEq
namespace Go.Proofs.YbulkahtqFmt
open Go.RowKit Kit

/-- The pointer to block p. -/
abbrev ptr (p : Nat) : Value := .pointer (some ⟨p, 0, none⟩)
abbrev edge (x : Nat × Nat) : Value := .agg #[ptr x.1, ptr x.2]
def IsCells (w : World) (p : Nat) : Prop := ∃ c t, w.heap[p]? = some (.cells c t (0, 0))

theorem Ybaf.info102 : (Ybaf.prog.info? 102).map (fun i => i.size) = some 9 := by kernel_rfl
theorem Ybaf.info68 : (Ybaf.prog.info? 68).map (fun i => (i.zero, i.size, i.bytes)) = some (some (.pointer none), 1, 8) := by kernel_rfl
theorem part68 (w : World) {cs : Array Value} {i : Nat} {v : Value} (h : cs[i]? = some v) : (part 68 cs i).run Ybaf.prog w = .ok v w := by
  have : (isAgg 68).run Ybaf.prog w = .ok false w := by kernel_rfl
  simp [part, this, h]

theorem equal_ptr (w : World) (d : Nat) {p q : Nat} (hp : IsCells w p) (hq : IsCells w q) : (Op.equalIn (d + 1) 68 (ptr p) (ptr q)).run Ybaf.prog w = .ok (decide (p = q)) w := by
  obtain ⟨c1, t1, h1⟩ := hp
  obtain ⟨c2, t2, h2⟩ := hq
  have hi := Ybaf.info102
  cases hj : Ybaf.prog.info? 102 with
  | none => rw [hj] at hi; cases hi
  | some j =>
    rw [hj] at hi
    simp only [Option.map_some, Option.some.injEq] at hi
    by_cases h : p = q
    · subst h
      simp [Op.equalIn, run_underlying Ybaf.underlying68, sizeOf, typeInfo, hj, run_sameAddr_same]
    · have hne : (⟨p, 0, none⟩ : Addr) ≠ ⟨q, 0, none⟩ := fun e => h (congrArg Addr.block e)
      simp [Op.equalIn, run_underlying Ybaf.underlying68, sizeOf, typeInfo, hj, hi, run_sameAddr_other w hne h1 h2, h]

theorem fields188 : ∃ f1 f2 : Field, f1.name ≠ "_" ∧ f2.name ≠ "_" ∧ f1.type = 68 ∧ f2.type = 68 ∧ f1.offset = 0 ∧ f2.offset = 1 ∧ Ybaf.prog.underlying 188 = some (.struct #[f1, f2]) :=
  ⟨_, _, by decide, by decide, rfl, rfl, rfl, rfl, Ybaf.underlying188⟩

theorem equal_edge (w : World) {x y : Nat × Nat} (h1 : IsCells w x.1) (h2 : IsCells w x.2) (h3 : IsCells w y.1) (h4 : IsCells w y.2) : (Op.equal 188 (edge x) (edge y)).run Ybaf.prog w = .ok (decide (x = y)) w := by
  have hx1 : ∀ x : Nat × Nat, (#[ptr x.1, ptr x.2] : Array Value)[0]? = some (ptr x.1) := fun _ => rfl
  have hx2 : ∀ x : Nat × Nat, (#[ptr x.1, ptr x.2] : Array Value)[1]? = some (ptr x.2) := fun _ => rfl
  have key : ∀ d, (Op.equalIn (d + 2) 188 (edge x) (edge y)).run Ybaf.prog w = .ok (decide (x = y)) w := fun d => by
    have e1 := equal_ptr w d h1 h3
    have e2 := equal_ptr w d h2 h4
    obtain ⟨f1, f2, n1, n2, t1, t2, o1, o2, hu⟩ := fields188
    have hf : Ybaf.prog.fieldsOf 188 = #[f1, f2] := by unfold Program.fieldsOf; rw [hu]
    rw [run_equalIn_agg w (d + 1) 188 _ _ (by rw [hf]; exact hu) Ybaf.stoodInHeld188, hf]
    simp only [Op.eqFields, n1, n2, t1, t2, o1, o2, Sem.run_bind, part68 w (hx1 _), part68 w (hx2 _), Result.andThen_ok, e1, e2, ne_eq, not_false_eq_true, if_true, Sem.run_ite, Sem.run_pure]
    by_cases ha : x.1 = y.1
    · by_cases hb : x.2 = y.2
      · simp [ha, hb, Prod.ext_iff]
      · simp [ha, hb, Prod.ext_iff]
    · simp [ha, Prod.ext_iff]
  simpa [Op.equal, Op.maxDepth] using key 9998

theorem check_edge (w : World) (em : Bool) (x : Nat × Nat) : (Instr.checkKey em 10000 188 (edge x)).run Ybaf.prog w = .ok () w := by
  have hx1 : ∀ x : Nat × Nat, (#[ptr x.1, ptr x.2] : Array Value)[0]? = some (ptr x.1) := fun _ => rfl
  have hx2 : ∀ x : Nat × Nat, (#[ptr x.1, ptr x.2] : Array Value)[1]? = some (ptr x.2) := fun _ => rfl
  have key : ∀ n, (Instr.checkKey em (n + 2) 188 (edge x)).run Ybaf.prog w = .ok () w := fun n => by
    obtain ⟨f1, f2, n1, n2, t1, t2, o1, o2, hu⟩ := fields188
    have hp : ∀ v, (Instr.checkKey em (n + 1) 68 v).run Ybaf.prog w = .ok () w := fun v => by
      simp [Instr.checkKey, run_underlying Ybaf.underlying68]
    rw [Instr.checkKey]
    simp [run_underlying hu, n1, n2, t1, t2, o1, o2, part68 w (hx1 _), part68 w (hx2 _), hp]
  exact key 9998

abbrev Edges := List ((Nat × Nat) × Nat)
theorem find_edge (w : World) {x : Nat × Nat} (h1 : IsCells w x.1) (h2 : IsCells w x.2) : ∀ (L : Edges) (es : List MapEntry) (i : Nat), es.map (fun e => (e.key, e.val)) = L.map (fun y => (edge y.1, Value.int .i64 y.2)) → (∀ y ∈ L, IsCells w y.1.1 ∧ IsCells w y.1.2) →
    ((Instr.findAsking 188 (edge x) es i).run Ybaf.prog w = .ok none w ∧ ∀ y ∈ L, y.1 ≠ x) ∨ ∃ (j v : Nat), (Instr.findAsking 188 (edge x) es i).run Ybaf.prog w = .ok (some (i + j, .int .i64 v)) w ∧ L[j]? = some (x, v)
  | [], [], i, _, _ => .inl ⟨by simp [Instr.findAsking], by simp⟩
  | [], _ :: _, _, h, _ => by simp at h
  | _ :: _, [], _, h, _ => by simp at h
  | y :: L, e :: es, i, h, hc => by
    simp only [List.map_cons, List.cons.injEq, Prod.mk.injEq] at h
    obtain ⟨⟨hk, hv⟩, ht⟩ := h
    have hy := hc y (by simp)
    have he := equal_edge w h1 h2 hy.1 hy.2
    by_cases hxy : x = y.1
    · refine .inr ⟨0, y.2, ?_, by rw [hxy]; rfl⟩
      subst hxy
      rw [Instr.findAsking]
      simp [hk, he, hv]
    · have hrun : (Instr.findAsking 188 (edge x) (e :: es) i).run Ybaf.prog w = (Instr.findAsking 188 (edge x) es (i + 1)).run Ybaf.prog w := by
        rw [Instr.findAsking]
        simp [hk, he, hxy]
      rcases find_edge w h1 h2 L es (i + 1) ht (fun z hz => hc z (by simp [hz])) with ⟨r1, r2⟩ | ⟨j, v, r1, r2⟩
      · refine .inl ⟨hrun.trans r1, fun z hz => ?_⟩
        rcases List.mem_cons.1 hz with rfl | hz
        · exact fun e => hxy e.symm
        · exact r2 z hz
      · exact .inr ⟨j + 1, v, by rw [hrun, r1, Nat.add_assoc, Nat.add_comm 1 j], by simpa using r2⟩

theorem findKey_edge (w : World) (x : Value) (es : List MapEntry) : (Instr.findKey 188 x es).run Ybaf.prog w = (Instr.findAsking 188 x es).run Ybaf.prog w := by
  obtain ⟨f1, f2, _, _, _, _, _, _, hu⟩ := fields188
  exact run_findKey_eq w (by rw [hu]) x es

/-- Block b is such a map: of at most n entries; its keys' blocks all pass 'Pr'; at the key x it holds 'E x'. -/
def edgeIs (w : World) (b n : Nat) (Pr : Nat → Prop) (E : Nat × Nat → Option Nat) : Prop :=
  ∃ (es : Array MapEntry) (clock : Nat) (L : Edges), w.heap[b]? = some (.map es clock) ∧ es.toList.map (fun e => (e.key, e.val)) = L.map (fun y => (edge y.1, Value.int .i64 y.2)) ∧ L.length ≤ n ∧ (∀ y ∈ L, Pr y.1.1 ∧ Pr y.1.2) ∧ (L.map Prod.fst).Nodup ∧ ∀ x v, E x = some v ↔ (x, v) ∈ L

def updE (E : Nat × Nat → Option Nat) (x : Nat × Nat) (v : Option Nat) : Nat × Nat → Option Nat := fun y => if y = x then v else E y

section
variable {w w' : World} {b n : Nat} {Pr : Nat → Prop} {E : Nat × Nat → Option Nat}

theorem edgeIs.of_block (h : edgeIs w b n Pr E) (e : w'.heap[b]? = w.heap[b]?) : edgeIs w' b n Pr E := by
  obtain ⟨es, clock, L, hb, hr⟩ := h
  exact ⟨es, clock, L, e.trans hb, hr⟩
theorem edgeIs.mono (h : edgeIs w b n Pr E) {n' : Nat} (hn : n ≤ n') : edgeIs w b n' Pr E := by
  obtain ⟨es, clock, L, hb, hm, hl, hr⟩ := h
  exact ⟨es, clock, L, hb, hm, by omega, hr⟩
theorem edgeIs.weaken (h : edgeIs w b n Pr E) {Pr' : Nat → Prop} (hp : ∀ p, Pr p → Pr' p) : edgeIs w b n Pr' E := by
  obtain ⟨es, clock, L, hb, hm, hl, hc, hr⟩ := h
  exact ⟨es, clock, L, hb, hm, hl, fun y hy => ⟨hp _ (hc y hy).1, hp _ (hc y hy).2⟩, hr⟩
theorem edgeIs.congr (h : edgeIs w b n Pr E) {E' : Nat × Nat → Option Nat} (e : ∀ x, E x = E' x) : edgeIs w b n Pr E' := by
  obtain rfl : E = E' := funext e
  exact h
theorem edgeIs.lt (h : edgeIs w b n Pr E) : b < w.heap.size := by
  obtain ⟨es, clock, L, hb, _⟩ := h
  exact (Array.getElem?_eq_some_iff.1 hb).1
theorem edgeIs_made {w : World} {b : Nat} (h : w.heap[b]? = some (.map #[] 0)) (Pr : Nat → Prop) : edgeIs w b 0 Pr (fun _ => none) :=
  ⟨#[], 0, [], h, rfl, Nat.le_refl _, by simp, by simp, by simp⟩

theorem edgeIs.look (h : edgeIs w b n Pr E) (hc : ∀ p, Pr p → IsCells w p) {x : Nat × Nat} (h1 : Pr x.1) (h2 : Pr x.2) :
    (Instr.lookup 98 (.map (some b)) (edge x) false).run Ybaf.prog w = .ok (.int .i64 ((E x).getD 0 : Nat)) w := by
  obtain ⟨es, clock, L, hb, hm, hl, hk, hn, hE⟩ := h
  have hz : (zeroValue 3).run Ybaf.prog w = .ok (.int .i64 0) w := by kernel_rfl
  have hg : (getObj b).run Ybaf.prog w = .ok (.map es clock) w := by simp [getObj, Sem.run, hb]
  rcases find_edge w (hc _ h1) (hc _ h2) L es.toList 0 hm (fun y hy => ⟨hc _ (hk y hy).1, hc _ (hk y hy).2⟩) with ⟨r1, r2⟩ | ⟨j, v, r1, r2⟩
  · have : E x = none := by
      cases hx : E x with
      | none => rfl
      | some v => exact absurd rfl (r2 _ ((hE x v).1 hx))
    simp [Instr.lookup, run_underlying Ybaf.underlying98, hg, check_edge, findKey_edge, r1, hz, this]
  · have : E x = some v := (hE x v).2 (List.mem_of_getElem? r2)
    simp [Instr.lookup, run_underlying Ybaf.underlying98, hg, check_edge, findKey_edge, r1, this]

theorem bits_edge (x : Nat × Nat) : Instr.sameBits 10000 (edge x) (edge x) = true := by
  have : ∀ n, Instr.sameBits (n + 1) (edge x) (edge x) = true := fun n => by simp [Instr.sameBits]
  exact this 9999

theorem turned_of {es : Array MapEntry} {clock : Nat} (hb : w.heap[b]? = some (.map es clock)) (es' : Array MapEntry) (clock' : Nat) : w.mapTurned (ChangeMaps.setBlock w b (.map es' clock')) b := ⟨es, clock, es', clock', hb, rfl⟩

theorem key_inj {L : Edges} (hn : (L.map Prod.fst).Nodup) {i j : Nat} {x : Nat × Nat} {u v : Nat} (hi : L[i]? = some (x, u)) (hj : L[j]? = some (x, v)) : i = j := by
  have h1 : (L.map Prod.fst)[i]? = some x := by simp [hi]
  have h2 : (L.map Prod.fst)[j]? = some x := by simp [hj]
  obtain ⟨l1, e1⟩ := List.getElem?_eq_some_iff.1 h1
  obtain ⟨l2, e2⟩ := List.getElem?_eq_some_iff.1 h2
  have hp := List.pairwise_iff_getElem.1 hn
  rcases Nat.lt_trichotomy i j with h | h | h
  · exact absurd (e1.trans e2.symm) (hp i j l1 l2 h)
  · exact h
  · exact absurd (e2.trans e1.symm) (hp j i l2 l1 h)

theorem edgeIs.put (h : edgeIs w b n Pr E) (hc : ∀ p, Pr p → IsCells w p) {x : Nat × Nat} (h1 : Pr x.1) (h2 : Pr x.2) (v : Nat) :
    ∃ w', (Instr.mapUpdate 98 (.map (some b)) (edge x) (.int .i64 v)).run Ybaf.prog w = .ok () w' ∧ edgeIs w' b (n + 1) Pr (updE E x (some v)) ∧ w.mapTurned w' b := by
  obtain ⟨es, clock, L, hb, hm, hl, hk, hn, hE⟩ := h
  have hg : (getObj b).run Ybaf.prog w = .ok (.map es clock) w := by simp [getObj, Sem.run, hb]
  have hs : ∀ o, (setObj b o).run Ybaf.prog w = .ok () (ChangeMaps.setBlock w b o) := fun o => by simp [setObj, Sem.run, hb, ChangeMaps.setBlock]
  have hlen : es.size = L.length := by have := congrArg List.length hm; simpa using this
  rcases find_edge w (hc _ h1) (hc _ h2) L es.toList 0 hm (fun y hy => ⟨hc _ (hk y hy).1, hc _ (hk y hy).2⟩) with ⟨r1, r2⟩ | ⟨j, u, r1, r2⟩
  · refine ⟨ChangeMaps.setBlock w b (.map (es.push { key := edge x, val := .int .i64 v, born := clock }) (clock + 1)), by simp [Instr.mapUpdate, run_underlying Ybaf.underlying98, hg, check_edge, findKey_edge, r1, hs], ⟨_, _, L ++ [(x, v)], ChangeMaps.heap_setBlock_same hb _, by simp [hm], by simp; omega, ?_, ?_, fun y u => ?_⟩, turned_of hb _ _⟩
    · intro y hy
      rcases List.mem_append.1 hy with hy | hy
      · exact hk y hy
      · simp at hy; subst hy; exact ⟨h1, h2⟩
    · rw [List.map_append, List.nodup_append]
      refine ⟨hn, by simp, fun a ha c hc e => ?_⟩
      simp at hc
      obtain ⟨z, hz, rfl⟩ := List.mem_map.1 ha
      exact r2 z hz (e.trans hc)
    · unfold updE
      by_cases hy : y = x
      · subst hy
        simp only [if_true, Option.some.injEq, List.mem_append, List.mem_singleton, Prod.mk.injEq, true_and]
        exact ⟨fun e => .inr e.symm, fun e => e.elim (fun h => absurd rfl (r2 _ h)) Eq.symm⟩
      · simp [hy, hE]
  · obtain ⟨hjl, hje⟩ := List.getElem?_eq_some_iff.1 r2
    have hkey : (es[j]?.map (·.key)).getD (edge x) = edge x := by
      have h3 : (es.toList.map (fun e => (e.key, e.val)))[j]? = (L.map (fun y => (edge y.1, Value.int .i64 y.2)))[j]? := by rw [hm]
      rw [List.getElem?_map, List.getElem?_map, r2, Array.getElem?_toList] at h3
      cases he : es[j]? with
      | none => rfl
      | some e => rw [he] at h3; simp at h3; simp [h3.1]
    have hstay : (Instr.keyThatStays (edge x) (edge x)).run Ybaf.prog w = .ok (edge x) w := by simp [Instr.keyThatStays, bits_edge]
    refine ⟨_, by simp [Instr.mapUpdate, run_underlying Ybaf.underlying98, hg, check_edge, findKey_edge, r1, hkey, hstay, hs]; rfl, ⟨_, _, L.set j (x, v), ChangeMaps.heap_setBlock_same hb _, ?_, by simp; omega, ?_, ?_, fun y u' => ?_⟩, turned_of hb _ _⟩
    · rw [List.map_set, ← hm]
      apply List.ext_getElem?
      intro i
      rw [List.getElem?_set, List.getElem?_map, Array.getElem?_toList, Array.getElem?_modify]
      by_cases hij : j = i
      · subst hij
        simp [hjl, hlen]
      · simp [hij]
    · intro y hy
      rcases List.mem_or_eq_of_mem_set hy with hy | hy
      · exact hk y hy
      · subst hy; exact ⟨h1, h2⟩
    · have : (L.set j (x, v)).map Prod.fst = L.map Prod.fst := by
        rw [List.map_set]
        apply List.ext_getElem?
        intro i
        rw [List.getElem?_set]
        by_cases hij : j = i
        · subst hij; simp [hjl, hje]
        · simp [hij]
      rw [this]; exact hn
    · rw [List.mem_iff_getElem?]
      unfold updE
      by_cases hy : y = x
      · subst hy
        simp only [if_true, Option.some.injEq]
        constructor
        · rintro rfl; exact ⟨j, by simp [hjl]⟩
        · rintro ⟨i, hi⟩
          rw [List.getElem?_set] at hi
          by_cases hij : j = i
          · subst hij; simp [hjl] at hi; exact hi
          · simp [hij] at hi; exact absurd (key_inj hn r2 hi) hij
      · rw [if_neg hy, hE, List.mem_iff_getElem?]
        constructor
        · rintro ⟨i, hi⟩
          refine ⟨i, ?_⟩
          rw [List.getElem?_set]
          by_cases hij : j = i
          · subst hij; rw [r2] at hi; simp at hi; exact absurd hi.1.symm hy
          · simp [hij, hi]
        · rintro ⟨i, hi⟩
          rw [List.getElem?_set] at hi
          by_cases hij : j = i
          · subst hij; simp [hjl] at hi; exact absurd hi.1.symm hy
          · simp [hij] at hi; exact ⟨i, hi⟩

theorem edgeIs.del (h : edgeIs w b n Pr E) (hc : ∀ p, Pr p → IsCells w p) {x : Nat × Nat} (h1 : Pr x.1) (h2 : Pr x.2) (ty : TypeId) :
    ∃ w', (Builtin.delete_ #[98, 188] ty #[.map (some b), edge x]).run Ybaf.prog w = .ok (.tuple #[]) w' ∧ edgeIs w' b n Pr (updE E x none) ∧ w.mapTurned w' b := by
  obtain ⟨es, clock, L, hb, hm, hl, hk, hn, hE⟩ := h
  have hg : (getObj b).run Ybaf.prog w = .ok (.map es clock) w := by simp [getObj, Sem.run, hb]
  have hs : ∀ o, (setObj b o).run Ybaf.prog w = .ok () (ChangeMaps.setBlock w b o) := fun o => by simp [setObj, Sem.run, hb, ChangeMaps.setBlock]
  rcases find_edge w (hc _ h1) (hc _ h2) L es.toList 0 hm (fun y hy => ⟨hc _ (hk y hy).1, hc _ (hk y hy).2⟩) with ⟨r1, r2⟩ | ⟨j, u, r1, r2⟩
  · refine ⟨ChangeMaps.setBlock w b (.map es clock), by simp [Builtin.delete_, run_underlying Ybaf.underlying98, hg, check_edge, findKey_edge, r1, hs], ⟨_, _, L, ChangeMaps.heap_setBlock_same hb _, hm, hl, hk, hn, fun y u => ?_⟩, turned_of hb _ _⟩
    unfold updE
    by_cases hy : y = x
    · subst hy; simp; exact fun h => absurd rfl (r2 _ h)
    · simp [hy, hE]
  · refine ⟨_, by simp [Builtin.delete_, run_underlying Ybaf.underlying98, hg, check_edge, findKey_edge, r1, hs]; rfl, ⟨_, _, L.eraseIdx j, ChangeMaps.heap_setBlock_same hb _, ?_, Nat.le_trans (List.length_eraseIdx_le _ _) hl, ?_, ?_, fun y u' => ?_⟩, turned_of hb _ _⟩
    · rw [ChangeMaps.map_eraseIdx, ← hm, ← ChangeMaps.map_eraseIdx]
      simp
    · exact fun y hy => hk y (List.mem_of_mem_eraseIdx hy)
    · rw [ChangeMaps.map_eraseIdx]; exact hn.sublist (List.eraseIdx_sublist _ _)
    · unfold updE
      rw [List.mem_eraseIdx_iff_getElem?]
      by_cases hy : y = x
      · subst hy
        simp only [if_true]
        exact ⟨fun h => by simp at h, fun ⟨i, hi, he⟩ => absurd (key_inj hn he r2) hi⟩
      · rw [if_neg hy, hE, List.mem_iff_getElem?]
        constructor
        · rintro ⟨i, hi⟩
          exact ⟨i, fun e => by subst e; rw [r2] at hi; simp at hi; exact hy hi.1.symm, hi⟩
        · rintro ⟨i, _, hi⟩; exact ⟨i, hi⟩

theorem edgeIs.len (h : edgeIs w b n Pr E) : ∃ k, k ≤ n ∧ ∃ es clock, w.heap[b]? = some (.map es clock) ∧ es.size = k := by
  obtain ⟨es, clock, L, hb, hm, hl, _⟩ := h
  exact ⟨es.size, by have := congrArg List.length hm; simp at this; omega, es, clock, hb, rfl⟩
end

section
variable (w : World) {ops : Array Oper} {rest : List Oper} {o : Oper} {a : Act} {Q : Exit → Act → World → Prop} {b n : Nat} {Pr : Nat → Prop} {E : Nat × Nat → Option Nat}

theorem wpList_look_edge (hg : o.guard = none) (m k : Operand) (hop : o.op = Op.lookup 98 m k false) (hm : a.eval m = .map (some b)) (h : edgeIs w b n Pr E) (hc : ∀ p, Pr p → IsCells w p) (x : Nat × Nat) (hk : a.eval k = edge x) (h1 : Pr x.1) (h2 : Pr x.2)
    (hK : wpList Ybaf.prog ops Q rest (a.put o.dst (.int .i64 ((E x).getD 0 : Nat))) w) : wpList Ybaf.prog ops Q (o :: rest) a w := by
  refine wpList_plain hg fun K' hK' => ?_
  have hrun := h.look hc h1 h2
  unfold Oper.wp
  simp [execOp, hop, hm, hk, hrun, Result.andThen]
  exact hK' _ _ hK

theorem wpList_put_edge (hg : o.guard = none) (m k v : Operand) (hop : o.op = Op.mapUpdate 98 m k v) (hm : a.eval m = .map (some b)) (h : edgeIs w b n Pr E) (hc : ∀ p, Pr p → IsCells w p) (x : Nat × Nat) (hk : a.eval k = edge x) (h1 : Pr x.1) (h2 : Pr x.2) (u : Nat) (hv : a.eval v = .int .i64 u)
    (hK : ∀ w', edgeIs w' b (n + 1) Pr (updE E x (some u)) → w.mapTurned w' b → wpList Ybaf.prog ops Q rest (a.put o.dst undef) w') : wpList Ybaf.prog ops Q (o :: rest) a w := by
  refine wpList_plain hg fun K' hK' => ?_
  obtain ⟨w', hrun, r1, r2⟩ := h.put hc h1 h2 u
  unfold Oper.wp
  simp [execOp, hop, hm, hk, hv, hrun, Result.andThen]
  exact hK' _ _ (hK w' r1 r2)

theorem wpList_del_edge (hg : o.guard = none) (m k : Operand) (hop : o.op = Op.call { callee := Callee.builtin Builtin.delete, args := #[m, k], argTypes := #[98, 188] }) (hm : a.eval m = .map (some b)) (h : edgeIs w b n Pr E) (hc : ∀ p, Pr p → IsCells w p) (x : Nat × Nat) (hk : a.eval k = edge x) (h1 : Pr x.1) (h2 : Pr x.2)
    (hK : ∀ w', edgeIs w' b n Pr (updE E x none) → w.mapTurned w' b → wpList Ybaf.prog ops Q rest (a.put o.dst (.tuple #[])) w') : wpList Ybaf.prog ops Q (o :: rest) a w := by
  refine wpList_plain hg fun K' hK' => ?_
  obtain ⟨w', hrun, r1, r2⟩ := h.del hc h1 h2 o.type
  unfold Oper.wp
  simp [execOp, hop, resolve, invoke, builtin, hm, hk, hrun, Result.andThen]
  exact hK' _ _ (hK w' r1 r2)

end

end Go.Proofs.YbulkahtqFmt
