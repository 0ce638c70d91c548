/-
  THE WALK of waitgraph's 'record': it counts a change and keeps whom it concerned.
-/
import Derived.Test.YbulkahtqFmtGraph
import Derived.Deep.RegionHeld3
namespace Go.Proofs.YbulkahtqFmt
open Go.RowKit Go.WideMaps Go.Maps Kit

/-- W is w but for the row of the changed, in block b. -/
def RecS (base b n cap : Nat) (w W : World) : Prop :=
  (∃ xs, W.ownsRow base 68 1 (.slice (some ⟨b, 0, none⟩) n cap) n xs ∧ ∀ v ∈ xs, v.oneCell' = true) ∧ (∀ k, k ≠ b → W.heap[k]? = w.heap[k]?) ∧ W.heap.size = w.heap.size ∧ W.os = w.os ∧ W.tape = w.tape ∧ W.output = w.output

theorem row_set {w : World} {base b n cap : Nat} {xs : List Value} (h : w.ownsRow base 68 1 (.slice (some ⟨b, 0, none⟩) n cap) n xs) {o : Nat} {cs : List Value} (hl : o + cs.length ≤ n) :
    ∃ cur, w.heap[b]? = some (.cells cur 68 (0, 0)) ∧ o + cs.length ≤ cur.size ∧ (w.setRow b (cur.toList.take o ++ cs ++ cur.toList.drop (o + cs.length)).toArray).ownsRow base 68 1 (.slice (some ⟨b, 0, none⟩) n cap) n (xs.take o ++ cs ++ xs.drop (o + cs.length)) := by
  rcases h.2 with ⟨h', _⟩ | ⟨g', cap', cur, h', hb, hg, hnc, hcm, hcs, htake⟩
  · simp at h'
  · simp only [Value.slice.injEq, Option.some.injEq, Addr.mk.injEq, and_true, true_and] at h'
    obtain ⟨rfl, rfl⟩ := h'
    have hx := h.1
    simp only [Nat.mul_one] at hx hcs htake
    refine ⟨cur, hg, by omega, ⟨by simp; omega, .inr ⟨b, cap, _, rfl, hb, setRow_heap w b cur _ 68 _ hg, hnc, hcm, by simp; omega, ?_⟩⟩⟩
    simp only [Nat.mul_one]
    rw [← htake]
    rw [List.take_append, List.take_append, List.take_take, List.take_take, List.drop_take]
    simp only [List.length_take, Array.length_toList, List.length_append]
    have e1 : min n o = o := by omega
    have e2 : min o n = o := by omega
    have e3 : min o cur.size = o := by omega
    rw [e1, e2, e3, List.take_of_length_le (l := cs) (by omega)]

theorem wrap_small (n : Nat) (h : n ≤ 200000000) : IntKind.i64.wrap (n : Int) = (n : Int) := by
  unfold IntKind.wrap
  simp [IntKind.bits, IntKind.signed]
  omega

theorem RecS.copied {base b n cap hh : Nat} {w0 w : World} (h : RecS base b n cap w0 w) (dT ty : TypeId) (c' : Nat) (hu : Ybaf.prog.underlying dT = some (.slice 68)) :
    ∃ w', (Builtin.copy_ #[dT, dT] ty #[.slice (some ⟨b, 0, none⟩) n cap, .slice (some ⟨b, hh, none⟩) (n - hh) c']).run Ybaf.prog w = .ok (.int .i64 ((n - hh : Nat) : Int)) w' ∧ RecS base b n cap w0 w' := by
  obtain ⟨⟨xs, ho, h1⟩, hk, hz, e1, e2, e3⟩ := h
  have hx := ho.1
  simp only [Nat.mul_one] at hx
  obtain ⟨cur, hg, hf, ho'⟩ := row_set ho (o := 0) (cs := xs.drop hh) (by simp; omega)
  have hr := run_copy_row Ybaf.prog w dT dT ty 68 b 0 n cap ⟨b, hh, none⟩ (n - hh) c' cur 68 (xs.drop hh) hu (by kernel_rfl) hg (by simp [hx]) (fun j v hj => by
    rw [List.getElem?_drop] at hj
    have := ho.cellAt (hh + j) (by have := (List.getElem?_eq_some_iff.1 hj).1; omega)
    rw [hj] at this
    have hadd : (⟨b, hh, none⟩ : Addr).add j = ⟨b, hh + j, none⟩ := by unfold Addr.add; split <;> simp_all
    rw [hadd]; exact this) hf (fun v hv => h1 v (List.mem_of_mem_drop hv))
  refine ⟨_, by rw [hr]; simp [goInt, hx], ⟨_, ho', ?_⟩, fun k hkb => (setRow_other w b k _ hkb).trans (hk k hkb), by rw [← hz]; simp [World.setRow], e1, e2, e3⟩
  intro v hv
  rcases List.mem_append.1 hv with hv | hv
  · rcases List.mem_append.1 hv with hv | hv
    · simp at hv
    · exact h1 v (List.mem_of_mem_drop hv)
  · exact h1 v (List.mem_of_mem_drop hv)

theorem step_copy {ops : Array Oper} {o : Oper} {a : Act} {w : World} {K : Act → World → Prop} {Q : Exit → Act → World → Prop} {E : Prop} (hg : o.guard = none) (d s : Operand)
    (hop : o.op = Op.call { callee := Callee.builtin Builtin.copy, args := #[d, s], argTypes := #[76, 76] }) {base b n cap hh c' : Nat} {w0 : World} (h : Hid (RecS base b n cap w0 w))
    (hd : a.eval d = .slice (some ⟨b, 0, none⟩) n cap) (hs : a.eval s = .slice (some ⟨b, hh, none⟩) (n - hh) c')
    (hK : ∀ w', Hid (RecS base b n cap w0 w') → K (a.put o.dst (.int .i64 ((n - hh : Nat) : Int))) w') : if Region.wanted o (yielded ops a.tmps) = true then Oper.wp Ybaf.prog o a w K Q else E := by
  have hw : Region.wanted o (yielded ops a.tmps) = true := by simp [Region.wanted, hg]
  rw [if_pos hw]
  obtain ⟨w', hrun, hS⟩ := RecS.copied (hh := hh) (unhide h) 76 o.type c' Ybaf.underlying76
  unfold Oper.wp
  simp [execOp, hop, resolve, invoke, builtin, hs, hd, hrun, Result.andThen]
  exact hK _ hS

theorem zeros_one (z : Value) (n : Nat) : (Builtin.zeroCells #[z] n).toList = List.replicate n z := by
  apply List.ext_getElem?
  intro j
  by_cases hj : j < n
  · simp [Builtin.zeroCells, hj, Nat.mod_one]
  · simp [Builtin.zeroCells, hj]

theorem RecS.cleared {base b n cap k m : Nat} {w0 w : World} (h : RecS base b n cap w0 w) (hm : k + m ≤ n) (c : Nat) :
    ∃ w', (∀ ty, (Builtin.clear_ #[76] ty #[.slice (some ⟨b, k, none⟩) m c]).run Ybaf.prog w = .ok (.tuple #[]) w') ∧ RecS base b n cap w0 w' := by
  by_cases hm0 : m = 0
  · subst hm0
    exact ⟨w, fun ty => by simp [Builtin.clear_, run_underlying Ybaf.underlying76], h⟩
  obtain ⟨⟨xs, ho, h1⟩, hk, hz, e1, e2, e3⟩ := h
  obtain ⟨cur, hg, hf, ho'⟩ := row_set ho (o := k) (cs := List.replicate m (.pointer none)) (by simpa using hm)
  have hst := run_storeCells_at Ybaf.prog b k 68 (List.replicate m (.pointer none)) 0 cur w hg (by simpa using hf) (fun v hv => by rw [List.eq_of_mem_replicate hv]; rfl)
  obtain ⟨m', rfl⟩ := Nat.exists_eq_succ_of_ne_zero hm0
  refine ⟨_, fun ty => ?_, ⟨_, ho', ?_⟩, fun k hkb => (setRow_other w b k _ hkb).trans (hk k hkb), by rw [← hz]; simp [World.setRow], e1, e2, e3⟩
  · simp only [Builtin.clear_]
    simp [run_underlying Ybaf.underlying76, Value.cells, zeros_one, hst]
  · intro v hv
    rcases List.mem_append.1 hv with hv | hv
    · rcases List.mem_append.1 hv with hv | hv
      · exact h1 v (List.mem_of_mem_take hv)
      · rw [List.eq_of_mem_replicate hv]; rfl
    · exact h1 v (List.mem_of_mem_drop hv)

section
variable {base : Nat} {R : Nat → Role} {g pm wm : Nat} {T W : Nat → List Nat} {E : Nat × Nat → Option Nat} {nm : Nat → ByteArray} {pf : Lit → Option Value} {N : Nat}

set_option maxHeartbeats 1000000 in
theorem record_is (w : World) (h : Lay base w R g pm wm T W E nm pf N) (hN : N ≤ 100000000) {p : Nat} :
    Calls Ybaf.prog 67 #[ptr g, ptr p] w fun e w' => e = .returned (.tuple #[]) ∧ ∃ R', Lay base w' R' g pm wm T W E nm pf (N + 2) ∧ Fr R R' w w' := by
  obtain ⟨c, lc, li, cv, iv, xc, xi, hg, hc, hlc, hli, hC, hI, hone⟩ := h.gr.ex
  obtain ⟨i0, hi, hz0, hz1, hz2⟩ := info_parts Ybaf.info68
  obtain ⟨a4, c4, rfl⟩ := own_slice hC.own
  have g3 := cell_of_blk hg (i := 3) rfl
  have f3 := frozen_of_blk hg 3
  have hgl := h.blt (p := g) (by rw [h.rg]; nofun)
  have hbs := h.hbase
  have hg1 : (w.setCell ⟨g, 3, none⟩ (.int .i64 ((c : Int) + 1))).heap[g]? = _ := set_blk (i := 3) hg _
  have g4 := cell_of_blk hg1 (i := 4) rfl
  have hC1 : RowOf base (w.setCell ⟨g, 3, none⟩ (.int .i64 ((c : Int) + 1))) R .changed (.slice a4 lc c4) lc xc := hC.frame (fun k _ e => ⟨set_other _ _ (fun e' => by rw [e', h.rg] at e; cases e), e⟩)
  have hI1 : RowOf base (w.setCell ⟨g, 3, none⟩ (.int .i64 ((c : Int) + 1))) R .idle iv li xi := hI.frame (fun k _ e => ⟨set_other _ _ (fun e' => by rw [e', h.rg] at e; cases e), e⟩)
  have HG := hide hg1
  clear hg1
  go_enter Ybaf.func67, Ybaf.ntmps67
  go_wp2_with (at_builtin; refine wpList_append_own_at _ rfl _ _ 76 rfl base 68 i0 (.pointer none) 1 8 Ybaf.underlying76 hi hz0 hz1 hz2 rfl (by decide) _ _ _ rfl (hC1.own.alloc _) ⟨w.heap.size, 0, none⟩ 1 1 [ptr p] rfl rfl (by have := cell_one_new (w.setCell ⟨g, 3, none⟩ (.int .i64 ((c : Int) + 1))) (ptr p) 68; rw [set_size] at this; exact this) (by simp [Value.oneCell']) (by unfold maxLen; omega) (by omega) (by simp; omega) ?_)
  intro v' w1 hown' hgrow _ hat
  have h0 : Lay base (w.setCell ⟨g, 3, none⟩ (.int .i64 ((c : Int) + 1))) R g pm wm T W E nm pf (N + 1) :=
    h.turnGr (by rw [set_size]; exact Nat.le_refl _) (fun _ => Iff.rfl) (fun k hk => h.fresh k (by rw [set_size] at hk; exact hk)) h.rg (fun k _ _ hk _ _ => ⟨set_other _ _ hk, rfl⟩) ⟨c + 1, lc, li, _, iv, xc, xi, by have := unhide HG; simpa using this, by omega, by omega, by omega, hC1, hI1, hone⟩ (by omega)
  replace hat : v'.ownBlock = (Value.slice a4 lc c4).ownBlock ∨ v'.ownBlock = some ((w.setCell ⟨g, 3, none⟩ (.int .i64 ((c : Int) + 1))).alloc (.cells #[ptr p] 68)).heap.size := by rw [World.size_alloc, set_size]; exact hat
  obtain ⟨a8, c8, rfl⟩ := own_slice hown'
  have hg1 : w1.heap[g]? = some (.cells #[.map (some pm), .map (some wm), .int .i64 0, .int .i64 ((c : Int) + 1), .slice a4 lc c4, .int .i64 0, .bool false, iv] 100 (0, 0)) := by
    obtain ⟨_, _, _, _, _, hblk, _⟩ := role_append h0.fresh hC1 hown' hgrow hat
    exact (hblk g (h0.blt (by rw [h.rg]; nofun)) (by rw [h.rg]; nofun)).trans (unhide HG)
  obtain ⟨R2, h2, hF2⟩ := h0.pushGr (w' := w1.setCell ⟨g, 4, none⟩ (.slice a8 (lc + 1) c8)) (.inl rfl) hC1 hown' hgrow hat (set_size _ _ _) ⟨rfl, rfl, rfl⟩ (fun k hk => set_other _ _ hk) (fun _ R' hrow hold =>
    ⟨c + 1, lc + 1, li, _, iv, _, xi, set_blk (i := 4) hg1 _, by omega, by omega, by omega, hrow, hI1.frame (fun k hk e => by rw [← e]; exact hold k hk (by rw [e]; nofun) (fun e' => by rw [e', h.rg] at e; cases e)), by
      intro v hv
      rcases List.mem_append.1 hv with hv | hv
      · exact hone v hv
      · simp at hv; subst hv; rfl⟩)
  have hF : Fr R R2 w (w1.setCell ⟨g, 4, none⟩ (.slice a8 (lc + 1) c8)) := Fr.trans (w' := w.setCell ⟨g, 3, none⟩ (.int .i64 ((c : Int) + 1))) ⟨rfl, rfl, rfl, by rw [set_size]; exact Nat.le_refl _, fun k _ e => ⟨e, set_other _ _ (fun e' => by rw [e', h.rg] at e; cases e)⟩, fun _ e => e⟩ hF2
  have w14 := cell_of_blk hg1 (i := 4) rfl
  have w1f := frozen_of_blk hg1 4
  have H2 := hide (And.intro h2 hF)
  clear h2 hF hF2 hown' hgrow hat h0 hg1 HG hI1 hC1 hI hC hg hone g3 g4 f3 hi hz0 hz1 hz2
  go_wp2
  generalize w1.setCell ⟨g, 4, none⟩ (.slice a8 (lc + 1) c8) = w2 at H2 ⊢
  clear w14 w1f
  obtain ⟨h2, hF⟩ := unhide H2
  obtain ⟨c, lc, li, cv, iv, xc, xi, hg, hc, hlc, hli, hC, hI, hone⟩ := h2.gr.ex
  obtain ⟨a5, c5, rfl⟩ := own_slice hC.own
  obtain ⟨D, ⟨es1, cl1, hm1, -, hsz1, -⟩, -⟩ := h2.pm_is
  obtain ⟨k2, hk2, es2, cl2, hm2, rfl⟩ := h2.wm_is.len
  have g0 := cell_of_blk hg (i := 0) rfl
  have g1 := cell_of_blk hg (i := 1) rfl
  have g4 := cell_of_blk hg (i := 4) rfl
  have hl1 : ∀ n ty, (Builtin.len_ #[97] ty #[.map (some pm)]).run Ybaf.prog (w2.drewN n) = .ok (.int .i64 (es1.size : Nat)) (w2.drewN n) := fun n ty => run_len_map (P := Ybaf.prog) (w2.drewN n) 97 ty pm es1 cl1 (by kernel_rfl) hm1
  have hl2 : ∀ n ty, (Builtin.len_ #[98] ty #[.map (some wm)]).run Ybaf.prog (w2.drewN n) = .ok (.int .i64 (es2.size : Nat)) (w2.drewN n) := fun n ty => run_len_map (P := Ybaf.prog) (w2.drewN n) 98 ty wm es2 cl2 (by kernel_rfl) hm2
  go_quiet (fail)
  by_cases hgt : es1.size + es2.size < lc
  · have h3 : Lay base (w2.drewN nq) R2 g pm wm T W E nm pf (N + 2) := h2.frame (w' := w2.drewN nq) (Nat.le_refl _) (fun _ _ _ => rfl) (Nat.le_refl _)
    go_wp2
    have hn1 : 1 ≤ lc := by omega
    obtain ⟨b, cap, cur, hcv, hW1, hW2, hW3, hW4, hW5, hW6⟩ : ∃ b cap cur, Value.slice a5 lc c5 = .slice (some ⟨b, 0, none⟩) lc cap ∧ base ≤ b ∧ w2.heap[b]? = some (.cells cur 68) ∧ lc ≤ cap ∧ cap ≤ maxLen ∧ cur.size = cap * 1 ∧ List.take (lc * 1) cur.toList = xc := by
      rcases hC.own.2 with ⟨_, e⟩ | h'
      · omega
      · exact h'
    cases hcv
    have hS : RecS base b lc c5 w2 (w2.drewN nq) := ⟨⟨xc, hC.own, hone⟩, fun _ _ => rfl, rfl, rfl, rfl, rfl⟩
    have HS := hide hS
    clear hS
    have g4' : (w2.drewN nq).cell? ⟨g, 4, none⟩ = some (.slice (some ⟨b, 0, none⟩) lc c5) := g4
    generalize w2.drewN nq = w3 at g4' HS ⊢
    obtain ⟨hh, hhe⟩ : ∃ hh, hh = lc / 2 := ⟨_, rfl⟩
    have hq1 : (lc : Int) / 2 = (hh : Int) := by omega
    have hq2 : (hh : Int) ≤ (lc : Int) := by omega
    have hq3 : hh < lc := by omega
    have hq4 : ¬ c5 = hh := by omega
    have hq5 : hh ≤ 100000010 := by omega
    have hq6 : IntKind.i64.wrap (hh : Int) = (hh : Int) := wrap_small _ (by omega)
    have hq7 : (0 : Int) ≤ (hh : Int) := by omega
    clear hhe
    have g4d : w3.drew.cell? ⟨g, 4, none⟩ = some (.slice (some ⟨b, 0, none⟩) lc c5) := g4'
    have HSd : Hid (RecS base b lc c5 w2 w3.drew) := HS
    have hgb : g ≠ b := fun e => by have := hC.role b rfl; rw [← e, h2.rg] at this; cases this
    have g4all : ∀ W, Hid (RecS base b lc c5 w2 W) → W.cell? ⟨g, 4, none⟩ = some (.slice (some ⟨b, 0, none⟩) lc c5) := fun W hW => by
      rw [World.cell?_of_block (w := w2) ((unhide hW).2.1 g hgb)]; exact g4
    go_region_held3 (fun W => W.cell? ⟨g, 4, none⟩ = some (.slice (some ⟨b, 0, none⟩) lc c5) ∧ Hid (RecS base b lc c5 w2 W)) (with_reducible first | assumption | exact ⟨by assumption, by assumption⟩ | exact ⟨g4all _ (by assumption), by assumption⟩) (first | (refine step_copy rfl _ _ rfl (by assumption) rfl rfl ?_; intro w4 hS4))
    have g44 := g4all _ hS4
    obtain ⟨k, hk⟩ : ∃ k, k = lc - hh := ⟨_, rfl⟩
    rw [← hk]
    have hk1 : (k : Int) ≤ (lc : Int) := by omega
    have hk2 : (0 : Int) ≤ (k : Int) := by omega
    have hk3 : (k : Int) ≤ (c5 : Int) := by omega
    have hk4 : k + (lc - k) ≤ lc := by omega
    have hS4' := hS4
    obtain ⟨w5, hcl, hS5⟩ := RecS.cleared (unhide hS4) hk4 (c5 - k)
    have HS5 := hide hS5
    clear hS5
    have g45 := g4all _ HS5
    have f45 : w5.frozen? ⟨g, 4, none⟩ = false := by
      rw [World.frozen?_of_block (w := w2) ((unhide HS5).2.1 g hgb)]; exact frozen_of_blk hg 4
    have hlk : lc ≤ c5 := hW3
    have fin : ∀ V, Hid (RecS base b lc c5 w2 V) → Lay base (V.setCell ⟨g, 4, none⟩ (.slice (some ⟨b, 0, none⟩) k c5)) R2 g pm wm T W E nm pf (N + 2) ∧ Fr R R2 w (V.setCell ⟨g, 4, none⟩ (.slice (some ⟨b, 0, none⟩) k c5)) := fun V hV => by
      obtain ⟨⟨xs, ho, h1⟩, hkb, hz, e1, e2, e3⟩ := unhide hV
      have hgV := (hkb g hgb).trans hg
      have hbR := hC.role b rfl
      refine ⟨h2.turnGr (by rw [set_size, hz]; exact Nat.le_refl _) (fun _ => Iff.rfl) (fun q hq => h2.fresh q (by rw [set_size, hz] at hq; exact hq)) h2.rg (fun q _ _ hq hq1 _ => ⟨(set_other _ _ hq).trans (hkb q (fun e => hq1 (by rw [e]; exact hbR))), rfl⟩)
        ⟨c, k, li, _, iv, xs.take k, xi, set_blk (i := 4) hgV _, by omega, by omega, by omega, ⟨own_of_block (own_shorter ho (m := k) (by omega)) (fun q hq => by cases hq; exact set_other _ _ (Ne.symm hgb)), fun q hq => by cases hq; exact hbR⟩,
          hI.frame (fun q _ e => ⟨(set_other _ _ (fun e' => by rw [e', h2.rg] at e; cases e)).trans (hkb q (fun e' => by rw [e', hbR] at e; cases e)), e⟩), fun v hv => h1 v (List.mem_of_mem_take hv)⟩ (Nat.le_refl _), hF.trans ⟨e1, e2, e3, by rw [set_size, hz]; exact Nat.le_refl _, fun q _ e => ⟨e, (set_other _ _ (fun e' => by rw [e', h2.rg] at e; cases e)).trans (hkb q (fun e' => by rw [e', hbR] at e; cases e))⟩, fun _ e => e⟩⟩
    have f44 : w4.frozen? ⟨g, 4, none⟩ = false := by
      rw [World.frozen?_of_block (w := w2) ((unhide hS4).2.1 g hgb)]; exact frozen_of_blk hg 4
    have F4 := hide (fin _ hS4)
    have F5 := hide (fin _ HS5)
    clear fin g4all hl1 hl2 hk hq1 hq2 hq3 hq4 hq5 hq6 hq7 g0 g1 g4 hm1 hm2 hgt hS4' HSd g4d g4' HS hW1 hW2 hW4 hW5 hW6
    by_cases hck : c5 = k
    · have hlk' : lc = k := by omega
      clear hcl
      subst hlk'
      subst hck
      have hcl : ∀ ty ad c, (Builtin.clear_ #[76] ty #[.slice ad 0 c]).run Ybaf.prog w4 = .ok (.tuple #[]) w4 := fun ty ad c => by cases ad <;> simp [Builtin.clear_, run_underlying Ybaf.underlying76]
      go_wp2
      go_end0
      exact ⟨rfl, R2, unhide F4⟩
    · go_wp2
      go_end0
      exact ⟨rfl, R2, unhide F5⟩
  · go_wp2
    go_end0
    exact ⟨rfl, R2, h2.frame (w' := w2.drewN nq) (Nat.le_refl _) (fun _ _ _ => rfl) (Nat.le_refl _), hF.os, hF.tape, hF.output, hF.size, hF.oth, hF.prc⟩
end

end Go.Proofs.YbulkahtqFmt
