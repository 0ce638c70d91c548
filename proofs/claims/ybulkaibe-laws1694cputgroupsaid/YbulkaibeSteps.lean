/-
  STEPS of regions that draw; a new entry in a new map; the nodes as the law lays them.
-/
import Derived.Test.YbulkaibeHelp
namespace Go.Proofs.Ybulkaibe
open Go.RowKit Go.WideMaps Go.Maps Kit
open Go.ChangeMaps (setBlock heap_setBlock_other)

/-- A CALL OF A Go FUNCTION, by its contract, as one step of a region that draws. -/
theorem step_call {P : Program} {cc : Bool} {o : Oper} {a : Act} {w : World} {K : Act → World → Prop} {Q : Exit → Act → World → Prop} {E : Prop} (hw : cc = true) (f : FuncId) (args : Array Operand) (ats : Array TypeId)
    (hop : o.op = Op.call { callee := Callee.value (Operand.func f), args := args, argTypes := ats }) (vs : Array Value) (hvs : args.map a.eval = vs) (hrun : ∀ w, (callFunc f vs).run P w = .ok (.enter f vs) w) (h : Calls P f vs w fun e w' => ∃ x, e = .returned x ∧ K (a.put o.dst x) w') :
    if cc = true then Oper.wp P o a w K Q else E := by
  rw [if_pos hw]
  have he : (execOp a.eval o).run P w = .ok (.enter f vs) w := by
    unfold execOp; rw [hop]; simp [resolve, invoke, Act.eval, Deferred.ofValue]; exact (congrArg (fun vs => (callFunc f vs).run P w) hvs).trans (hrun w)
  unfold Oper.wp
  rw [he, Oper.upon_enter]
  refine h.mono fun e w'' hh => ?_
  obtain ⟨x, rfl, hx⟩ := hh
  exact hx

/-- append onto an owned row, as one step of a region that draws. -/
theorem step_append {P : Program} {cc : Bool} {o : Oper} {a : Act} {w : World} {K : Act → World → Prop} {Q : Exit → Act → World → Prop} {E : Prop} (hw : cc = true) (s x : Operand) (t : TypeId)
    (ho : o.op = .call { callee := .builtin .append, args := #[s, x], argTypes := #[t, t] })
    (base : Nat) (e : TypeId) (i : TypeInfo) (z : Value) (size bytes : Nat) (ht : P.underlying t = some (.slice e)) (hi : P.info? e = some i) (hz : i.zero = some z)
    (hsize : i.size = size) (hby : i.bytes = bytes) (hzs : z.cells.size = size) (hsz : 0 < size)
    (v : Value) (n : Nat) (xs : List Value) (hs : a.eval s = v) (hown : w.ownsRow base e size v n xs)
    (ad : Addr) (m c : Nat) (news : List Value) (hx : a.eval x = .slice (some ad) m c) (hl : news.length = m * size) (hnews : ∀ j u, news[j]? = some u → w.cell? (ad.add j) = some u) (h1 : ∀ u ∈ news, u.oneCell' = true)
    (h63 : n + m ≤ maxLen) (hbytes : (n + m) * bytes ≤ 140737488355328) (hbase : base ≤ w.heap.size)
    (h : ∀ v' w', w'.ownsRow base e size v' (n + m) (xs ++ news) → w.grownBy w' v.ownBlock → (v'.ownBlock = v.ownBlock ∨ v'.ownBlock = some w.heap.size) → K (a.put o.dst v') w') :
    if cc = true then Oper.wp P o a w K Q else E := by
  rw [if_pos hw]
  obtain ⟨v', w', hr, h2, h3, _, h5⟩ := run_append_own_at (P := P) w base t o.type e i z size bytes ht hi hz hsize hby hzs hsz v n xs hown ad m c news hl hnews h1 h63 hbytes hbase
  unfold Oper.wp execOp
  simp only [ho, resolve, invoke, builtin, Sem.run_bind, Sem.run_pure, Result.andThen_ok, List.map_toArray, List.map_cons, List.map_nil, hs, hx, hr]
  exact h v' w' h2 h3 h5


/-- append onto an owned row, as one step of a region that draws. -/
theorem step_append_g {P : Program} {ops : Array Oper} {o : Oper} {a : Act} {w : World} {K : Act → World → Prop} {Q : Exit → Act → World → Prop} {E : Prop} (hg : o.guard = none) (s x : Operand) (t : TypeId)
    (ho : o.op = .call { callee := .builtin .append, args := #[s, x], argTypes := #[t, t] })
    (base : Nat) (e : TypeId) (i : TypeInfo) (z : Value) (size bytes : Nat) (ht : P.underlying t = some (.slice e)) (hi : P.info? e = some i) (hz : i.zero = some z)
    (hsize : i.size = size) (hby : i.bytes = bytes) (hzs : z.cells.size = size) (hsz : 0 < size)
    (v : Value) (n : Nat) (xs : List Value) (hs : a.eval s = v) (hown : w.ownsRow base e size v n xs)
    (ad : Addr) (m c : Nat) (news : List Value) (hx : a.eval x = .slice (some ad) m c) (hl : news.length = m * size) (hnews : ∀ j u, news[j]? = some u → w.cell? (ad.add j) = some u) (h1 : ∀ u ∈ news, u.oneCell' = true)
    (h63 : n + m ≤ maxLen) (hbytes : (n + m) * bytes ≤ 140737488355328) (hbase : base ≤ w.heap.size)
    (h : ∀ v' w', w'.ownsRow base e size v' (n + m) (xs ++ news) → w.grownBy w' v.ownBlock → (v'.ownBlock = v.ownBlock ∨ v'.ownBlock = some w.heap.size) → K (a.put o.dst v') w') :
    if Region.wanted o (yielded ops a.tmps) = true then Oper.wp P o a w K Q else E := by
  have hw : Region.wanted o (yielded ops a.tmps) = true := by simp [Region.wanted, hg]
  rw [if_pos hw]
  obtain ⟨v', w', hr, h2, h3, _, h5⟩ := run_append_own_at (P := P) w base t o.type e i z size bytes ht hi hz hsize hby hzs hsz v n xs hown ad m c news hl hnews h1 h63 hbytes hbase
  unfold Oper.wp execOp
  simp only [ho, resolve, invoke, builtin, Sem.run_bind, Sem.run_pure, Result.andThen_ok, List.map_toArray, List.map_cons, List.map_nil, hs, hx, hr]
  exact h v' w' h2 h3 h5


theorem find_none (w : World) : (Instr.findKey 9 (.string cap) []).run Yba.prog w = .ok none w := by kernel_rfl
theorem insert_new {w : World} {b : Nat} (h : w.heap[b]? = some (.map #[] 0)) (v : Int) : (Instr.mapUpdate 41 (.map (some b)) (.string cap) (.int .i64 v)).run Yba.prog w = .ok () (setBlock w b (oneMap v)) := by
  simp [Instr.mapUpdate, run_underlying Yba.underlying41, MapKept.run_getObj_map h, check_one, find_none, Result.andThen]
  simp [setObj, Sem.run, h, setBlock]

/-- The cluster's cells. -/
abbrev clCells (vn vp : Value) : Array Value := #[.string ⟨#[]⟩, .string ⟨#[]⟩, .int .i64 0, .int .u64 0, .int .u64 0, .pointer none, .int .u16 0, .int .i64 0, .int .i64 0, .map none, vn, vp]
abbrev nodeCells (j m : Nat) : List Value := [.string (nnm j), .int .u64 0, .int .u64 0, .pointer none, .map (some m), .int .i64 0]

/-- The first i nodes are laid. -/
structure Nd (W0 : World) (c : Nat) (C : Nat → Nat) (i : Nat) (wx : World) : Prop where
  ex : ∃ (a : Option Addr) (cn : Nat) (cb : Nat → Nat) (xs : List Value), wx.heap[c]? = some (.cells (clCells (.slice a i cn) (.slice none 0 0)) 45 (0, 0)) ∧ wx.ownsRow W0.heap.size 48 6 (.slice a i cn) i xs ∧
    (∀ j, j < i → (∀ q, q < 6 → xs[j * 6 + q]? = (nodeCells j (cb j))[q]?) ∧ wx.heap[cb j]? = some (oneMap (C j)) ∧ W0.heap.size ≤ cb j)
  ud : Upd W0.heap.size [c] W0 wx
  lt : c < W0.heap.size

theorem Nd.push {W0 wx w2 w3 : World} {c i cn cn' : Nat} {C : Nat → Nat} {a a' : Option Addr} {cb : Nat → Nat} {xs : List Value} {mb : Nat} {o : Obj} (h : Nd W0 c C i wx)
    (hc : wx.heap[c]? = some (.cells (clCells (.slice a i cn) (.slice none 0 0)) 45 (0, 0))) (hrow : wx.ownsRow W0.heap.size 48 6 (.slice a i cn) i xs)
    (hx : ∀ j, j < i → (∀ q, q < 6 → xs[j * 6 + q]? = (nodeCells j (cb j))[q]?) ∧ wx.heap[cb j]? = some (oneMap (C j)) ∧ W0.heap.size ≤ cb j)
    (hB : Below wx.heap.size wx w2) (hm : w2.heap[mb]? = some (oneMap (C i))) (hmb : wx.heap.size ≤ mb)
    (hown : w3.ownsRow W0.heap.size 48 6 (.slice a' (i + 1) cn') (i + 1) (xs ++ nodeCells i mb)) (hg : (w2.alloc o).grownBy w3 (Value.slice a i cn).ownBlock) :
    w3.heap[c]? = some (.cells (clCells (.slice a i cn) (.slice none 0 0)) 45 (0, 0)) ∧ Nd W0 c C (i + 1) (w3.setCell ⟨c, 10, none⟩ (.slice a' (i + 1) cn')) := by
  have hz := hg.size
  simp only [World.size_alloc] at hz
  have hz2 := hB.size
  have hz0 := h.ud.size
  have hlt := h.lt
  have hge : ∀ k, some k = (Value.slice a i cn).ownBlock → W0.heap.size ≤ k := fun k hk => (hrow.lt k hk.symm).1
  have hcells : ∀ k, some k = (Value.slice a i cn).ownBlock → ∃ cur, wx.heap[k]? = some (.cells cur 48) := fun k hk => own_ne hrow hk.symm
  have K2 : ∀ k, k < w2.heap.size → some k ≠ (Value.slice a i cn).ownBlock → w3.heap[k]? = w2.heap[k]? := fun k hk hne => (hg.block k (by simp; omega) hne).trans (blk_old _ _ hk)
  have K : ∀ k, k < wx.heap.size → some k ≠ (Value.slice a i cn).ownBlock → w3.heap[k]? = wx.heap[k]? := fun k hk hne => (K2 k (by omega) hne).trans (hB.block k hk)
  have c3 : w3.heap[c]? = some (.cells (clCells (.slice a i cn) (.slice none 0 0)) 45 (0, 0)) := (K c (by omega) (fun e => by have := hge c e; omega)).trans hc
  refine ⟨c3, ⟨a', cn', updF cb i mb, xs ++ nodeCells i mb, ?_, ?_, fun j hj => ?_⟩, ?_, hlt⟩
  · have := heap_setCell_same w3 c 10 (clCells (.slice a i cn) (.slice none 0 0)) 45 (.slice a' (i + 1) cn') c3
    rw [this]; rfl
  · exact own_of_block hown (fun k hk => set_other _ _ (by have := (hown.lt k hk).1; simp only; omega))
  · have hxl : xs.length = i * 6 := hrow.1
    by_cases hji : j = i
    · subst hji
      rw [updF_same]
      refine ⟨fun q hq => ?_, ?_, by omega⟩
      · rw [List.getElem?_append_right (by omega)]
        congr 1
        omega
      · rw [set_other _ _ (by simp only; omega), K2 mb (blk_lt hm) (fun e => by
          obtain ⟨cur, e1⟩ := hcells mb e
          have := blk_lt e1
          omega)]
        exact hm
    · rw [updF_other _ _ hji]
      obtain ⟨x1, x2, x3⟩ := hx j (by omega)
      refine ⟨fun q hq => ?_, ?_, x3⟩
      · rw [List.getElem?_append_left (by omega)]; exact x1 q hq
      · rw [set_other _ _ (by simp only; omega), K (cb j) (blk_lt x2) (fun e => by
          obtain ⟨cur, e1⟩ := hcells (cb j) e
          rw [e1] at x2
          cases x2)]
        exact x2
  · refine h.ud.trans ⟨hg.os.trans hB.os, hg.tape.trans hB.tape, hg.output.trans hB.output, by rw [set_size]; omega, fun k hk hkc => ?_⟩
    rw [set_other _ _ (by simpa using hkc), K k (by omega) (fun e => by have := hge k e; omega)]

end Go.Proofs.Ybulkaibe
