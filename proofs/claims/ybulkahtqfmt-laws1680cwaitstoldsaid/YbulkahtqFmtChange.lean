/-
  THE WALKS of the driver's 'change', of 'siteOf', of the law's own rules' 'changed'.
-/
import Derived.Test.YbulkahtqFmtApply
import Derived.Lib.SliceRun
import Derived.Deep.RegionLaw
namespace Go.Proofs.YbulkahtqFmt
open Go.RowKit Go.WideMaps Go.Maps Kit

set_option maxHeartbeats 400000 in
theorem siteOf_any (s : Nat) (x : ByteArray) (hx : x.size ≤ maxLen) (w : World) (h : w.cell? ⟨s, 2, none⟩ = some (.map none)) :
    Calls Ybaf.prog 38 #[ptr s, .string x] w fun e w' => e = .returned (.string x) ∧ w' = w := by
  have hlk : (Instr.lookup 50 (.map none) (.string x) true).run Ybaf.prog w = .ok (.tuple #[.string ByteArray.empty, .bool false]) w := by
    have hc : (Instr.checkKey true 10000 9 (.string x)).run Ybaf.prog w = .ok () w := law9.check w true (key_is hx)
    simp [Instr.lookup, run_underlying Ybaf.underlying50, hc, Instr.findKey, run_underlying Ybaf.underlying9, Instr.findNow]
    rfl
  go_enter Ybaf.func38, Ybaf.ntmps38
  go_wp2
  go_ret
  exact ⟨rfl, rfl⟩

set_option maxHeartbeats 1000000 in
theorem clone_is (b : Nat) (x : ByteArray) (w : World) (h : w.cell? ⟨b, 0, none⟩ = some (.string x)) :
    Calls Ybaf.prog 103 #[.slice (some ⟨b, 0, none⟩) 1 1] w fun e w' => ∃ v, e = .returned v ∧ w'.ownsRow w.heap.size 9 1 v 1 [.string x] ∧ Below w.heap.size w w' := by
  obtain ⟨i0, hi, hz0, hz1, hz2⟩ := info_parts Ybaf.info9
  have hl := cell_lt h
  have hb := blk_old w (.cells #[] 9) hl
  have hown : (w.alloc (.cells #[] 9)).ownsRow w.heap.size 9 1 (.slice (some ⟨w.heap.size, 0, none⟩) 0 0) 0 [] := World.ownsRow_lit w #[] 0 (Nat.le_refl _) (by unfold maxLen; omega) rfl
  have hB : Below w.heap.size w (w.alloc (.cells #[] 9)) := (Below.refl _ _).alloc (Nat.le_refl _) _
  have hnil := fun w a l c => Lib.run_eql_slice_nil (P := Ybaf.prog) w 33 9 a l c 0 0 Ybaf.underlying33
  go_enter Ybaf.func103, Ybaf.ntmps103
  go_wp2_with (at_builtin; refine wpList_append_own_at _ rfl _ _ 33 rfl w.heap.size 9 i0 (.string ByteArray.empty) 1 16 Ybaf.underlying33 hi hz0 hz1 hz2 rfl (by decide) _ _ _ rfl hown ⟨b, 0, none⟩ 1 1 [.string x] rfl rfl (fun j u hj => by
    match j, hj with
    | 0, hj => simp at hj; subst hj; rw [World.cell?_of_block (w := w) (by simpa [Addr.add] using hb)]; simpa [Addr.add] using h) (by simp [Value.oneCell']) (by unfold maxLen; omega) (by omega) (by simp) ?_; intro v' w1 hown' hgrow _ _)
  go_ret
  exact ⟨v', rfl, by simpa using hown', hB.grown hgrow (by simp) (fun k hk => by cases hk; exact Nat.le_refl _)⟩

/-- A CALL OF A Go FUNCTION, by its contract, as one step of a region that draws. -/
theorem step_call {P : Program} {cc : Bool} {o : Oper} {a : Act} {w : World} {K : Act → World → Prop} {Q : Exit → Act → World → Prop} {E : Prop} (hw : cc = true) (f : FuncId) (args : Array Operand) (ats : Array TypeId)
    (hop : o.op = Op.call { callee := Callee.value (Operand.func f), args := args, argTypes := ats }) (vs : Array Value) (hvs : args.map a.eval = vs) (hrun : ∀ w, (callFunc f vs).run P w = .ok (.enter f vs) w) (h : Calls P f vs w fun e w' => ∃ x, e = .returned x ∧ K (a.put o.dst x) w') :
    if cc = true then Oper.wp P o a w K Q else E := by
  rw [if_pos hw]
  have he : (execOp a.eval o).run P w = .ok (.enter f vs) w := by
    unfold execOp; rw [hop]; simp [resolve, invoke, Act.eval, Deferred.ofValue]; exact (congrArg (fun vs => (callFunc f vs).run P w) hvs).trans (hrun w)
  unfold Oper.wp
  rw [he, Oper.upon_enter]
  refine h.mono fun e w'' hh => ?_
  obtain ⟨x, rfl, hx⟩ := hh
  exact hx

/-- append onto an owned row, as one step of a region that draws. -/
theorem step_append {P : Program} {cc : Bool} {o : Oper} {a : Act} {w : World} {K : Act → World → Prop} {Q : Exit → Act → World → Prop} {E : Prop} (hw : cc = true) (s x : Operand) (t : TypeId)
    (ho : o.op = .call { callee := .builtin .append, args := #[s, x], argTypes := #[t, t] })
    (base : Nat) (e : TypeId) (i : TypeInfo) (z : Value) (size bytes : Nat) (ht : P.underlying t = some (.slice e)) (hi : P.info? e = some i) (hz : i.zero = some z)
    (hsize : i.size = size) (hby : i.bytes = bytes) (hzs : z.cells.size = size) (hsz : 0 < size)
    (v : Value) (n : Nat) (xs : List Value) (hs : a.eval s = v) (hown : w.ownsRow base e size v n xs)
    (ad : Addr) (m c : Nat) (news : List Value) (hx : a.eval x = .slice (some ad) m c) (hl : news.length = m * size) (hnews : ∀ j u, news[j]? = some u → w.cell? (ad.add j) = some u) (h1 : ∀ u ∈ news, u.oneCell' = true)
    (h63 : n + m ≤ maxLen) (hbytes : (n + m) * bytes ≤ 140737488355328) (hbase : base ≤ w.heap.size)
    (h : ∀ v' w', w'.ownsRow base e size v' (n + m) (xs ++ news) → w.grownBy w' v.ownBlock → (v'.ownBlock = v.ownBlock ∨ v'.ownBlock = some w.heap.size) → K (a.put o.dst v') w') :
    if cc = true then Oper.wp P o a w K Q else E := by
  rw [if_pos hw]
  obtain ⟨v', w', hr, h2, h3, _, h5⟩ := run_append_own_at (P := P) w base t o.type e i z size bytes ht hi hz hsize hby hzs hsz v n xs hown ad m c news hl hnews h1 h63 hbytes hbase
  unfold Oper.wp execOp
  simp only [ho, resolve, invoke, builtin, Sem.run_bind, Sem.run_pure, Result.andThen_ok, List.map_toArray, List.map_cons, List.map_nil, hs, hx, hr]
  exact h v' w' h2 h3 h5

theorem Ybaf.info33 : (Ybaf.prog.info? 33).map (fun i => (i.zero, i.size, i.bytes)) = some (some (.slice none 0 0), 1, 24) := by kernel_rfl
theorem Ybaf.info4 : (Ybaf.prog.info? 4).map (fun i => (i.zero, i.size, i.bytes)) = some (some (.bool false), 1, 1) := by kernel_rfl

/-- No block of v serves the graph. -/
def OthV (R : Nat → Role) (v : Value) : Prop := ∀ b, v.ownBlock = some b → R b = .other

/-- What the law's own rules hold: the changes told of (one process each), and what ended. -/
structure Rul (base : Nat) (w : World) (R : Nat → Role) (r d n m : Nat) (ps : List ByteArray) (es : List Bool) : Prop where
  ex : ∃ a3 c3 a4 c4 cs, w.rowIs r 41 6 (rulesRow d (.slice none 0 0) (.slice a3 n c3) (.slice a4 m c4)) ∧ w.ownsRow base 33 1 (.slice a3 n c3) n cs ∧ w.ownsRow base 4 1 (.slice a4 m c4) m (es.map .bool) ∧
    (∀ i v, cs[i]? = some v → w.ownsRow base 9 1 v 1 [.string (ps.getD i ByteArray.empty)] ∧ OthV R v) ∧ OthV R (.slice a3 n c3) ∧ OthV R (.slice a4 m c4)
  len : ps.length = n
  oth : R r = .other

theorem own_ne {w : World} {base e size n : Nat} {v : Value} {xs : List Value} (h : w.ownsRow base e size v n xs) {b : Nat} (hb : v.ownBlock = some b) : ∃ cur, w.heap[b]? = some (.cells cur e) := by
  rcases h.2 with ⟨rfl, _⟩ | ⟨g, cap, cur, rfl, _, h2, _⟩
  · cases hb
  · cases hb; exact ⟨cur, h2⟩
theorem own_apart {w : World} {base e e' size size' n n' : Nat} {v v' : Value} {xs xs' : List Value} (h : w.ownsRow base e size v n xs) (h' : w.ownsRow base e' size' v' n' xs') (he : e ≠ e') {b : Nat} (hb : v.ownBlock = some b) : some b ≠ v'.ownBlock := fun hb' => by
  obtain ⟨_, h1⟩ := own_ne h hb
  obtain ⟨_, h2⟩ := own_ne h' hb'.symm
  rw [h1] at h2
  simp only [Option.some.injEq, Obj.cells.injEq] at h2
  exact he h2.2.1
theorem OthV.pushed {R : Nat → Role} {v v' : Value} {S S' : Nat} (h : OthV R v) (hf : ∀ k, S ≤ k → R k = .other) (hat : v'.ownBlock = v.ownBlock ∨ v'.ownBlock = some S') (hS : S ≤ S') : OthV R v' := fun b hb => by
  rcases hat with e | e
  · exact h b (e ▸ hb)
  · rw [e] at hb; cases hb; exact hf _ hS

theorem rul_push3 {base : Nat} {w w1 w2 : World} {R : Nat → Role} {r d n m : Nat} {ps : List ByteArray} {es : List Bool} {x : ByteArray} {a3 a4 a5 av : Option Addr} {c3 c4 c5 cv : Nat} {cs : List Value}
    (hrow : w.rowIs r 41 6 (rulesRow d (.slice none 0 0) (.slice a3 n c3) (.slice a4 m c4))) (hch : w.ownsRow base 33 1 (.slice a3 n c3) n cs) (hen : w.ownsRow base 4 1 (.slice a4 m c4) m (es.map .bool))
    (hcl : ∀ i v, cs[i]? = some v → w.ownsRow base 9 1 v 1 [.string (ps.getD i ByteArray.empty)] ∧ OthV R v) (ho3 : OthV R (.slice a3 n c3)) (ho4 : OthV R (.slice a4 m c4)) (hlen : ps.length = n) (hoth : R r = .other)
    (hrb : r < base) (hbs : base ≤ w.heap.size) (hfr : ∀ k, w.heap.size ≤ k → R k = .other) (hB : Below w.heap.size w w1) (hv : w1.ownsRow w.heap.size 9 1 (.slice av 1 cv) 1 [.string x])
    (hown2 : w2.ownsRow base 33 1 (.slice a5 (n + 1) c5) (n + 1) (cs ++ [.slice av 1 cv])) (hgrow2 : (w1.alloc (.cells #[.slice av 1 cv] 33)).grownBy w2 (Value.slice a3 n c3).ownBlock)
    (hat2 : (Value.slice a5 (n + 1) c5).ownBlock = (Value.slice a3 n c3).ownBlock ∨ (Value.slice a5 (n + 1) c5).ownBlock = some (w1.alloc (.cells #[.slice av 1 cv] 33)).heap.size) :
    Rul base (w2.setCell ⟨r, 3, none⟩ (.slice a5 (n + 1) c5)) R r d (n + 1) m (ps ++ [x]) es ∧ Upd base [r] w (w2.setCell ⟨r, 3, none⟩ (.slice a5 (n + 1) c5)) ∧ (∀ k, k < w.heap.size → R k ≠ .other → (w2.setCell ⟨r, 3, none⟩ (.slice a5 (n + 1) c5)).heap[k]? = w.heap[k]?) := by
  have hrl := hrow.lt
  have hz1 := hB.size
  have hz2 := hgrow2.size
  simp only [World.size_alloc] at hz2 hat2
  have hlt3 : ∀ k, (Value.slice a3 n c3).ownBlock = some k → base ≤ k ∧ k < w.heap.size := fun k hk => hch.lt k hk
  have K0 : ∀ k, k < w1.heap.size → k ≠ r → some k ≠ (Value.slice a3 n c3).ownBlock → (w2.setCell ⟨r, 3, none⟩ (.slice a5 (n + 1) c5)).heap[k]? = w1.heap[k]? := fun k hk hr h3 =>
    (set_other _ _ hr).trans ((hgrow2.block k (by simp; omega) h3).trans (blk_old _ _ hk))
  have K1 : ∀ k, k < w.heap.size → k ≠ r → some k ≠ (Value.slice a3 n c3).ownBlock → (w2.setCell ⟨r, 3, none⟩ (.slice a5 (n + 1) c5)).heap[k]? = w.heap[k]? := fun k hk hr h3 => (K0 k (by omega) hr h3).trans (hB.block k hk)
  have hr2 : w2.rowIs r 41 6 (rulesRow d (.slice none 0 0) (.slice a3 n c3) (.slice a4 m c4)) := hrow.of_block ((hgrow2.block r (by simp; omega) (fun e => by have := (hlt3 r e.symm).1; omega)).trans ((blk_old _ _ (by omega)).trans (hB.block r hrl)))
  refine ⟨⟨⟨a5, c5, a4, c4, cs ++ [.slice av 1 cv], ?_, ?_, ?_, ?_, ?_, ho4⟩, by simp [hlen], hoth⟩, ?_, ?_⟩
  · exact (hr2.set 3 _).congr (fun i hi => by
      match i, hi with
      | 0, _ => rfl
      | 1, _ => rfl
      | 2, _ => rfl
      | 3, _ => rfl
      | 4, _ => rfl
      | 5, _ => rfl)
  · exact own_of_block hown2 (fun k hk => set_other _ _ (fun e => by have := (hown2.lt k hk).1; omega))
  · exact own_of_block hen (fun k hk => K1 k (hen.lt k hk).2 (fun e => by have := (hen.lt k hk).1; omega) (own_apart hen hch (by decide) hk))
  · intro i v hi
    have hcl0 : cs.length = n := by have := hch.1; omega
    by_cases hin : i < n
    · rw [List.getElem?_append_left (by omega)] at hi
      obtain ⟨h1, h2⟩ := hcl i v hi
      refine ⟨?_, h2⟩
      have e : (ps ++ [x]).getD i ByteArray.empty = ps.getD i ByteArray.empty := by simp [List.getD, List.getElem?_append_left (show i < ps.length by omega)]
      rw [e]
      exact own_of_block h1 (fun k hk => K1 k (h1.lt k hk).2 (fun e => by have := (h1.lt k hk).1; omega) (own_apart h1 hch (by decide) hk))
    · rw [List.getElem?_append_right (by omega)] at hi
      have hi0 : i - cs.length = 0 := by
        have := (List.getElem?_eq_some_iff.1 hi).1
        simpa using this
      rw [hi0] at hi
      simp only [List.getElem?_cons_zero, Option.some.injEq] at hi
      subst hi
      have hin2 : i = n := by omega
      have e : (ps ++ [x]).getD i ByteArray.empty = x := by
        simp only [List.getD]
        rw [List.getElem?_append_right (by omega)]
        have : i - ps.length = 0 := by omega
        rw [this]; rfl
      rw [e]
      refine ⟨own_of_block (hv.mono hbs) (fun k hk => ?_), fun k hk => hfr k (hv.lt k hk).1⟩
      have hl := hv.lt k hk
      exact K0 k hl.2 (fun e => by omega) (fun e => by have := (hlt3 k e.symm).2; omega)
  · exact ho3.pushed (S := w.heap.size) (S' := w1.heap.size + 1) hfr hat2 (by omega)
  · refine ⟨hgrow2.os.trans hB.os, hgrow2.tape.trans hB.tape, hgrow2.output.trans hB.output, by rw [set_size]; omega, fun k hk hkr => K1 k (by omega) (by simpa using hkr) (fun e => by have := (hlt3 k e.symm).1; omega)⟩
  · exact fun k hk hR => K1 k hk (fun e => hR (e ▸ hoth)) (fun e => hR (ho3 k e.symm))

theorem rul_push4 {base : Nat} {w w2 : World} {R : Nat → Role} {r d n m : Nat} {ps : List ByteArray} {es : List Bool} {en : Bool} {a3 a4 a5 : Option Addr} {c3 c4 c5 : Nat} {cs : List Value}
    (hrow : w.rowIs r 41 6 (rulesRow d (.slice none 0 0) (.slice a3 n c3) (.slice a4 m c4))) (hch : w.ownsRow base 33 1 (.slice a3 n c3) n cs) (hen : w.ownsRow base 4 1 (.slice a4 m c4) m (es.map .bool))
    (hcl : ∀ i v, cs[i]? = some v → w.ownsRow base 9 1 v 1 [.string (ps.getD i ByteArray.empty)] ∧ OthV R v) (ho3 : OthV R (.slice a3 n c3)) (ho4 : OthV R (.slice a4 m c4)) (hlen : ps.length = n) (hoth : R r = .other)
    (hrb : r < base) (hbs : base ≤ w.heap.size) (hfr : ∀ k, w.heap.size ≤ k → R k = .other)
    (hown2 : w2.ownsRow base 4 1 (.slice a5 (m + 1) c5) (m + 1) (es.map .bool ++ [.bool en])) (hgrow2 : (w.alloc (.cells #[.bool en] 4)).grownBy w2 (Value.slice a4 m c4).ownBlock)
    (hat2 : (Value.slice a5 (m + 1) c5).ownBlock = (Value.slice a4 m c4).ownBlock ∨ (Value.slice a5 (m + 1) c5).ownBlock = some (w.alloc (.cells #[.bool en] 4)).heap.size) :
    Rul base (w2.setCell ⟨r, 4, none⟩ (.slice a5 (m + 1) c5)) R r d n (m + 1) ps (es ++ [en]) ∧ Upd base [r] w (w2.setCell ⟨r, 4, none⟩ (.slice a5 (m + 1) c5)) ∧ (∀ k, k < w.heap.size → R k ≠ .other → (w2.setCell ⟨r, 4, none⟩ (.slice a5 (m + 1) c5)).heap[k]? = w.heap[k]?) := by
  have hrl := hrow.lt
  have hz2 := hgrow2.size
  simp only [World.size_alloc] at hz2 hat2
  have hlt3 : ∀ k, (Value.slice a4 m c4).ownBlock = some k → base ≤ k ∧ k < w.heap.size := fun k hk => hen.lt k hk
  have K1 : ∀ k, k < w.heap.size → k ≠ r → some k ≠ (Value.slice a4 m c4).ownBlock → (w2.setCell ⟨r, 4, none⟩ (.slice a5 (m + 1) c5)).heap[k]? = w.heap[k]? := fun k hk hr h3 =>
    (set_other _ _ hr).trans ((hgrow2.block k (by simp; omega) h3).trans (blk_old _ _ hk))
  have hr2 : w2.rowIs r 41 6 (rulesRow d (.slice none 0 0) (.slice a3 n c3) (.slice a4 m c4)) := hrow.of_block ((hgrow2.block r (by simp; omega) (fun e => by have := (hlt3 r e.symm).1; omega)).trans (blk_old _ _ (by omega)))
  refine ⟨⟨⟨a3, c3, a5, c5, cs, ?_, ?_, ?_, ?_, ho3, ?_⟩, hlen, hoth⟩, ?_, ?_⟩
  · exact (hr2.set 4 _).congr (fun i hi => by
      match i, hi with
      | 0, _ => rfl
      | 1, _ => rfl
      | 2, _ => rfl
      | 3, _ => rfl
      | 4, _ => rfl
      | 5, _ => rfl)
  · exact own_of_block hch (fun k hk => K1 k (hch.lt k hk).2 (fun e => by have := (hch.lt k hk).1; omega) (own_apart hch hen (by decide) hk))
  · rw [List.map_append]
    exact own_of_block hown2 (fun k hk => set_other _ _ (fun e => by have := (hown2.lt k hk).1; omega))
  · intro i v hi
    obtain ⟨h1, h2⟩ := hcl i v hi
    exact ⟨own_of_block h1 (fun k hk => K1 k (h1.lt k hk).2 (fun e => by have := (h1.lt k hk).1; omega) (own_apart h1 hen (by decide) hk)), h2⟩
  · exact ho4.pushed (S := w.heap.size) (S' := w.heap.size + 1) hfr hat2 (by omega)
  · refine ⟨hgrow2.os, hgrow2.tape, hgrow2.output, by rw [set_size]; omega, fun k hk hkr => K1 k (by omega) (by simpa using hkr) (fun e => by have := (hlt3 k e.symm).1; omega)⟩
  · exact fun k hk hR => K1 k hk (fun e => hR (e ▸ hoth)) (fun e => hR (ho4 k e.symm))

set_option maxRecDepth 20000 in
set_option maxHeartbeats 4000000 in
theorem changed_is (base : Nat) (w : World) (R : Nat → Role) (r d n b : Nat) (ps : List ByteArray) (es : List Bool) (x : ByteArray) (en : Bool) (h : Rul base w R r d n n ps es) (hn : n ≤ 1024) (hrb : r < base) (hbs : base ≤ w.heap.size) (hfr : ∀ k, w.heap.size ≤ k → R k = .other) (hb : w.cell? ⟨b, 0, none⟩ = some (.string x)) :
    Calls Ybaf.prog 100 #[ptr r, .slice (some ⟨b, 0, none⟩) 1 1, .bool en] w fun e w' => e = .returned (.tuple #[]) ∧ Rul base w' R r d (n + 1) (n + 1) (ps ++ [x]) (es ++ [en]) ∧ Upd base [r] w w' ∧ ∀ k, k < w.heap.size → R k ≠ .other → w'.heap[k]? = w.heap[k]? := by
  obtain ⟨a3, c3, a4, c4, cs, hrow, hch, hen, hcl, ho3, ho4⟩ := h.ex
  obtain ⟨i3, hi3, hy0, hy1, hy2⟩ := info_parts Ybaf.info33
  have r3 : w.cell? ⟨r, 3, none⟩ = some (.slice a3 n c3) := hrow.cell (i := 3) (by omega)
  have hrl := hrow.lt
  have hlt3 : ∀ k, (Value.slice a3 n c3).ownBlock = some k → k < w.heap.size := fun k hk => (hch.lt k hk).2
  have hge3 : ∀ k, (Value.slice a3 n c3).ownBlock = some k → base ≤ k := fun k hk => (hch.lt k hk).1
  have HX := hide (And.intro hen (And.intro hcl (And.intro ho3 (And.intro ho4 h))))
  clear hen hcl ho3 ho4 h
  have second : ∀ W, Rul base W R r d (n + 1) n (ps ++ [x]) es → base ≤ W.heap.size → (∀ k, W.heap.size ≤ k → R k = .other) → ∃ a3 c3 a4 c4, W.rowIs r 41 6 (rulesRow d (.slice none 0 0) (.slice a3 (n + 1) c3) (.slice a4 n c4)) ∧ W.ownsRow base 4 1 (.slice a4 n c4) n (es.map .bool) ∧
      (∀ a5 c5 w2, w2.ownsRow base 4 1 (.slice a5 (n + 1) c5) (n + 1) (es.map .bool ++ [.bool en]) → (W.alloc (.cells #[.bool en] 4)).grownBy w2 (Value.slice a4 n c4).ownBlock → ((Value.slice a5 (n + 1) c5).ownBlock = (Value.slice a4 n c4).ownBlock ∨ (Value.slice a5 (n + 1) c5).ownBlock = some (W.alloc (.cells #[.bool en] 4)).heap.size) →
        w2.cell? ⟨r, 4, none⟩ = some (.slice a4 n c4) ∧ w2.frozen? ⟨r, 4, none⟩ = false ∧ Rul base (w2.setCell ⟨r, 4, none⟩ (.slice a5 (n + 1) c5)) R r d (n + 1) (n + 1) (ps ++ [x]) (es ++ [en]) ∧ Upd base [r] W (w2.setCell ⟨r, 4, none⟩ (.slice a5 (n + 1) c5)) ∧ (∀ k, k < W.heap.size → R k ≠ .other → (w2.setCell ⟨r, 4, none⟩ (.slice a5 (n + 1) c5)).heap[k]? = W.heap[k]?)) := by
    intro W hW hWs hWf
    obtain ⟨a3, c3, a4, c4, cs, hrow, hch, hen, hcl, ho3, ho4⟩ := hW.ex
    refine ⟨a3, c3, a4, c4, hrow, hen, fun a5 c5 w2 ho hg ha => ?_⟩
    have hr2 : w2.rowIs r 41 6 (rulesRow d (.slice none 0 0) (.slice a3 (n + 1) c3) (.slice a4 n c4)) := hrow.of_block ((hg.block r (by have := hrow.lt; simp; omega) (fun e => by have := (hen.lt r e.symm).1; omega)).trans (blk_old _ _ hrow.lt))
    exact ⟨hr2.cell (i := 4) (by omega), hr2.frozen 4, rul_push4 hrow hch hen hcl ho3 ho4 hW.len hW.oth hrb hWs hWf ho hg ha⟩
  have HS := hide second
  clear second
  go_enter Ybaf.func100, Ybaf.ntmps100
  go_wp2
  go_region_law (first
    | (refine step_call rfl 103 _ _ rfl #[.slice (some ⟨b, 0, none⟩) 1 1] (by kernel_rfl) (fun _ => by kernel_rfl) ?_
       refine (clone_is b x w.drew hb).mono ?_
       rintro e w1 ⟨v, rfl, hv, hB⟩
       obtain ⟨av, cv, rfl⟩ := own_slice hv
       have hown1 : w1.ownsRow base 33 1 (.slice a3 n c3) n cs := own_of_block hch (fun k hk => hB.block k (hlt3 k hk))
       have hr1 : w1.rowIs r 41 6 (rulesRow d (.slice none 0 0) (.slice a3 n c3) (.slice a4 n c4)) := hrow.of_block (hB.block r hrl)
       have q3 : w1.cell? ⟨r, 3, none⟩ = some (.slice a3 n c3) := hr1.cell (i := 3) (by omega)
       have hs1 : w.heap.size ≤ w1.heap.size := hB.size
       have hrl1 : r < w1.heap.size := by omega
       refine ⟨_, rfl, ?_⟩)
    | (refine step_append rfl _ _ 38 rfl base 33 i3 (.slice none 0 0) 1 24 Ybaf.underlying38 hi3 hy0 hy1 hy2 rfl (by decide) _ _ _ rfl (hown1.alloc _) ⟨w1.heap.size, 0, none⟩ 1 1 [.slice av 1 cv] rfl rfl (cell_one_new _ _ _) (by simp [Value.oneCell']) (by unfold maxLen; omega) (by omega) (by simp; omega) ?_
       intro v2 w2 hown2 hgrow2 hat2
       obtain ⟨a5, c5, rfl⟩ := own_slice hown2
       have hr2 : w2.rowIs r 41 6 (rulesRow d (.slice none 0 0) (.slice a3 n c3) (.slice a4 n c4)) := hr1.of_block ((hgrow2.block r (by simp; omega) (fun e => by have := hge3 r e.symm; omega)).trans (blk_old _ _ hrl1))
       have s3 : w2.cell? ⟨r, 3, none⟩ = some (.slice a3 n c3) := hr2.cell (i := 3) (by omega)
       have s3f := hr2.frozen 3))
  all_goals
    have hB' : Below w.heap.size w w1 := ⟨hB.os, hB.tape, hB.output, hB.size, hB.block⟩
    obtain ⟨hen, hcl, ho3, ho4, h⟩ := unhide HX
    have P3 := rul_push3 hrow hch hen hcl ho3 ho4 h.len h.oth hrb hbs hfr hB' hv hown2 hgrow2 hat2
    have hW2 : base ≤ (w2.setCell ⟨r, 3, none⟩ (.slice a5 (n + 1) c5)).heap.size := by have := P3.2.1.size; omega
    have hWf : ∀ k, (w2.setCell ⟨r, 3, none⟩ (.slice a5 (n + 1) c5)).heap.size ≤ k → R k = .other := fun k hk => hfr k (by have := P3.2.1.size; omega)
    clear hB' hB hv hown2 hgrow2 hat2 hr2 s3 s3f hown1 hr1 q3 hs1 hrl1 hen hcl ho3 ho4 h HX hrow hch r3 hrl hlt3 hge3 hi3 hy0 hy1 hy2
    generalize w2.setCell ⟨r, 3, none⟩ (.slice a5 (n + 1) c5) = W at P3 hW2 hWf ⊢
    obtain ⟨b3, d3, b4, d4, hrow, hen, sec⟩ := unhide HS W P3.1 hW2 hWf
    obtain ⟨i4, hi4, hz0, hz1, hz2⟩ := info_parts Ybaf.info4
    have r4 : W.cell? ⟨r, 4, none⟩ = some (.slice b4 n d4) := hrow.cell (i := 4) (by omega)
    have H3 := hide P3
    have HSec := hide sec
    have hrl := hrow.lt
    clear P3 sec HS hrow
    go_wp2_with (at_builtin; refine wpList_append_own_at _ rfl _ _ 39 rfl base 4 i4 (.bool false) 1 1 Ybaf.underlying39 hi4 hz0 hz1 hz2 rfl (by decide) _ _ _ rfl (hen.alloc _) ⟨W.heap.size, 0, none⟩ 1 1 [.bool en] rfl rfl (cell_one_new _ _ _) (by simp [Value.oneCell']) (by unfold maxLen; omega) (by omega) (by simp; omega) ?_)
    intro v2 w3 hown3 hgrow3 _ hat3
    obtain ⟨a6, c6, rfl⟩ := own_slice hown3
    obtain ⟨s4, s4f, F1, F2, F3⟩ := unhide HSec a6 c6 w3 hown3 hgrow3 (by rw [World.size_alloc]; exact hat3)
    have HF := hide (And.intro F1 (And.intro F2 F3))
    clear F1 F2 F3 HSec hown3 hgrow3 hat3 hen r4 hi4 hz0 hz1 hz2
    go_wp2
    go_end0
    obtain ⟨F1, F2, F3⟩ := unhide HF
    have P3 := unhide H3
    exact ⟨rfl, F1, P3.2.1.trans F2, fun k hk hR => (F3 k (Nat.lt_of_lt_of_le hk P3.2.1.size) hR).trans (P3.2.2 k hk hR)⟩

end Go.Proofs.YbulkahtqFmt
