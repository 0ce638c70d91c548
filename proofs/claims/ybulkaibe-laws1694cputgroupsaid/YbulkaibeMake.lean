/-
  THE WALK of 'makeRoom'.
-/
import Derived.Test.YbulkaibeClone
namespace Go.Proofs.Ybulkaibe
open Go.RowKit Go.WideMaps Go.Maps Kit
open Go.ChangeMaps (setBlock heap_setBlock_other)

/-- A row of packages' pointers, the call's own. -/
abbrev Rw (B : Nat) (A : Ad) (W : World) (v : Value) (l : List Nat) : Prop := W.ownsRow B 52 1 v l.length (l.map (fun i => ptr (A.pb i)))

structure L1 (A : Ad) (w w1 : World) (onB : Nat) (ys cs : List Nat) (v11 : Value) (wx : World) : Prop where
  on : ∃ von, wx.heap[onB]? = some (.cells #[von] 43 (0, 0)) ∧ Rw w1.heap.size A wx von ys ∧ ∀ b, von.ownBlock = some b → v11.ownBlock ≠ some b
  cand : Rw w1.heap.size A wx v11 cs
  bel : Below w.heap.size w wx
  lt : onB < w1.heap.size
  ge : w.heap.size ≤ onB
  sz : w1.heap.size ≤ wx.heap.size
  b1 : ∀ b, b < w1.heap.size → b ≠ onB → wx.heap[b]? = w1.heap[b]?

section
variable {A : Ad} {w w1 wx w2 : World} {onB : Nat} {ys cs : List Nat} {v11 von v' : Value}

theorem L1.pushOn (h : L1 A w w1 onB ys cs v11 wx) (hon : wx.heap[onB]? = some (.cells #[von] 43 (0, 0))) (hrow : Rw w1.heap.size A wx von ys) (hap : ∀ b, von.ownBlock = some b → v11.ownBlock ≠ some b) {q : Nat} {o : Obj}
    (hown : w2.ownsRow w1.heap.size 52 1 v' (ys.length + 1) (ys.map (fun i => ptr (A.pb i)) ++ [ptr (A.pb q)])) (hg : (wx.alloc o).grownBy w2 von.ownBlock) (hat : v'.ownBlock = von.ownBlock ∨ v'.ownBlock = some (wx.heap.size + 1)) :
    L1 A w w1 onB (ys ++ [q]) cs v11 (w2.setCell ⟨onB, 0, none⟩ v') := by
  have hz := hg.size
  simp only [World.size_alloc] at hz
  have l1 := h.lt
  have l2 := h.sz
  have l3 := h.ge
  have K : ∀ k, k < wx.heap.size → some k ≠ von.ownBlock → w2.heap[k]? = wx.heap[k]? := fun k hk hne => (hg.block k (by simp; omega) hne).trans (blk_old _ _ hk)
  have hge : ∀ k, some k = von.ownBlock → w1.heap.size ≤ k := fun k hk => (hrow.lt k hk.symm).1
  have hon2 : w2.heap[onB]? = some (.cells #[von] 43 (0, 0)) := (K onB (by omega) (fun e => by have := hge _ e; omega)).trans hon
  refine ⟨⟨v', ?_, ?_, fun b hb => ?_⟩, ?_, ?_, l1, l3, by rw [set_size]; omega, fun b hb hne => ?_⟩
  · have := heap_setCell_same w2 onB 0 #[von] 43 v' hon2
    simpa using this
  · have e : (ys ++ [q]).length = ys.length + 1 := by simp
    show World.ownsRow _ _ _ _ _ _ _
    rw [e, List.map_append]
    exact own_of_block hown (fun k hk => set_other _ _ (by have := (hown.lt k hk).1; simp only; omega))
  · rcases hat with e | e
    · exact hap b (e ▸ hb)
    · rw [e] at hb; cases hb
      intro e'
      have := (h.cand.lt _ e').2
      omega
  · exact own_of_block h.cand (fun k hk => (set_other _ _ (by have := (h.cand.lt k hk).1; simp only; omega)).trans (K k (h.cand.lt k hk).2 (fun e => hap k e.symm hk)))
  · have hB2 : Below w.heap.size w w2 := (h.bel.alloc (by have := h.bel.size; omega) o).grown hg (by have := h.bel.size; simp; omega) (fun k hk => by have := hge k hk.symm; omega)
    exact hB2.setCell (p := ⟨onB, 0, none⟩) l3 _
  · rw [set_other _ _ (by simpa using hne), K b (by omega) (fun e => by have := hge _ e; omega)]
    exact h.b1 b hb hne

theorem L1.pushCand (h : L1 A w w1 onB ys cs v11 wx) {q : Nat} {o : Obj}
    (hown : w2.ownsRow w1.heap.size 52 1 v' (cs.length + 1) (cs.map (fun i => ptr (A.pb i)) ++ [ptr (A.pb q)])) (hg : (wx.alloc o).grownBy w2 v11.ownBlock) (hat : v'.ownBlock = v11.ownBlock ∨ v'.ownBlock = some (wx.heap.size + 1)) :
    L1 A w w1 onB ys (cs ++ [q]) v' w2 := by
  obtain ⟨von, hon, hrow, hap⟩ := h.on
  have hz := hg.size
  simp only [World.size_alloc] at hz
  have l1 := h.lt
  have l2 := h.sz
  have l3 := h.ge
  have K : ∀ k, k < wx.heap.size → some k ≠ v11.ownBlock → w2.heap[k]? = wx.heap[k]? := fun k hk hne => (hg.block k (by simp; omega) hne).trans (blk_old _ _ hk)
  have hge : ∀ k, some k = v11.ownBlock → w1.heap.size ≤ k := fun k hk => (h.cand.lt k hk.symm).1
  refine ⟨⟨von, (K onB (by omega) (fun e => by have := hge _ e; omega)).trans hon, own_of_block hrow (fun k hk => K k (hrow.lt k hk).2 (fun e => hap k hk e.symm)), fun b hb => ?_⟩, ?_, ?_, l1, l3, by omega, fun b hb hne => ?_⟩
  · rcases hat with e | e
    · rw [e]; exact hap b hb
    · rw [e]; intro e'; cases e'
      have := (hrow.lt _ hb).2
      omega
  · have e : (cs ++ [q]).length = cs.length + 1 := by simp
    show World.ownsRow _ _ _ _ _ _ _
    rw [e, List.map_append]
    exact hown
  · exact (h.bel.alloc (by have := h.bel.size; omega) o).grown hg (by have := h.bel.size; simp; omega) (fun k hk => by have := hge k hk.symm; omega)
  · rw [K b (by omega) (fun e => by have := hge _ e; omega)]
    exact h.b1 b hb hne

theorem L1.drew1 (h : L1 A w w1 onB ys cs v11 wx) : L1 A w w1 onB ys cs v11 wx.drew :=
  ⟨h.on, h.cand, h.bel.drew, h.lt, h.ge, h.sz, h.b1⟩
theorem L1.drew (h : L1 A w w1 onB ys cs v11 wx) (n : Nat) : L1 A w w1 onB ys cs v11 (wx.drewN n) :=
  ⟨h.on, h.cand, below_drewN h.bel n, h.lt, h.ge, h.sz, h.b1⟩
end

theorem cands_succ (i : Nat) (loc : Nat → Option Nat) (pri : Nat → Nat) (t j : Nat) : cands (i + 1) loc pri t j = cands i loc pri t j ++ (if loc i = some j ∧ prM (pri t) < prM (pri i) then [i] else []) := by
  unfold cands
  rw [List.range_succ, List.filter_append]
  congr 1
  by_cases h : loc i = some j ∧ prM (pri t) < prM (pri i) <;> simp [h]

/-- How long the slice in a cell is. -/
def hlen : Option Value → Nat
  | some (.slice _ n _) => n
  | _ => 0

/-- What stands while packages are halted: m of them, v the room left. -/
structure L2 (A : Ad) (W2 : World) (hB rbc : Nat) (s : List Nat) (m : Nat) (v : Int) (wx : World) : Prop where
  ex : ∃ a c, wx.heap[hB]? = some (.cells #[.slice a m c] 43 (0, 0)) ∧ wx.ownsRow W2.heap.size 52 1 (.slice a m c) m ((s.take m).map (fun i => ptr (A.pb i)))
  rb : wx.heap[rbc]? = some (oneMap v)
  upd : Upd W2.heap.size [hB, rbc] W2 wx

theorem L2.below {A : Ad} {W2 : World} {hB rbc : Nat} {s : List Nat} {m : Nat} {v : Int} {wx wy : World} (h : L2 A W2 hB rbc s m v wx) (hB' : Below wx.heap.size wx wy) : L2 A W2 hB rbc s m v wy := by
  obtain ⟨a, c, h1, h2⟩ := h.ex
  exact ⟨⟨a, c, (hB'.block _ (blk_lt h1)).trans h1, own_of_block h2 (fun k hk => hB'.block k (h2.lt k hk).2)⟩, (hB'.block _ (blk_lt h.rb)).trans h.rb, h.upd.trans ((Upd.of_below hB').mono h.upd.size (fun _ _ h => h))⟩

theorem haltM_stop {wt : Nat → Nat} {t : Nat} {s : List Nat} {m : Nat} {v : Int} (h : 0 ≤ v - wt t) : haltM wt t s m v = some m := by
  cases s <;> (simp only [haltM]; rw [if_pos h])
theorem haltM_none {wt : Nat → Nat} {t m : Nat} {v : Int} (h : ¬ 0 ≤ v - wt t) : haltM wt t [] m v = none := by simp only [haltM]; rw [if_neg h]
theorem haltM_step {wt : Nat → Nat} {t q m : Nat} {s : List Nat} {v : Int} (h : ¬ 0 ≤ v - wt t) : haltM wt t (q :: s) m v = haltM wt t s (m + 1) (v + wt q) := by simp only [haltM]; rw [if_neg h]

theorem L2.push {A : Ad} {W2 : World} {hB : Nat} {s : List Nat} {m : Nat} {v : Int} {wx w5 : World} (h : L2 A W2 hB (hB + 1) s m v wx) (hs2 : hB + 2 = W2.heap.size) {q : Nat} (hq : s[m]? = some q) {a aH : Option Addr} {c cH : Nat} {o : Obj}
    (e1 : wx.heap[hB]? = some (.cells #[.slice aH m cH] 43 (0, 0))) (e2 : wx.ownsRow W2.heap.size 52 1 (.slice aH m cH) m ((s.take m).map (fun i => ptr (A.pb i))))
    (hown : w5.ownsRow W2.heap.size 52 1 (.slice a (m + 1) c) (m + 1) ((s.take m).map (fun i => ptr (A.pb i)) ++ [ptr (A.pb q)])) (hg : (wx.alloc o).grownBy w5 (Value.slice aH m cH).ownBlock) :
    w5.heap[hB]? = some (.cells #[.slice aH m cH] 43 (0, 0)) ∧ (w5.setCell ⟨hB, 0, none⟩ (.slice a (m + 1) c)).heap[hB + 1]? = some (oneMap v) ∧ Upd W2.heap.size [hB, hB + 1] W2 (w5.setCell ⟨hB, 0, none⟩ (.slice a (m + 1) c)) ∧
      ∀ w7 v', w7.heap[hB + 1]? = some (oneMap v') → Upd (w5.setCell ⟨hB, 0, none⟩ (.slice a (m + 1) c)).heap.size [hB + 1] (w5.setCell ⟨hB, 0, none⟩ (.slice a (m + 1) c)) w7 → L2 A W2 hB (hB + 1) s (m + 1) v' w7 ∧ w7.cell? ⟨hB, 0, none⟩ = some (.slice a (m + 1) c) := by
  have hz := hg.size
  simp only [World.size_alloc] at hz
  have hzx := h.upd.size
  have hge : ∀ k, some k = (Value.slice aH m cH).ownBlock → W2.heap.size ≤ k := fun k hk => (e2.lt k hk.symm).1
  have K : ∀ k, k < W2.heap.size → w5.heap[k]? = wx.heap[k]? := fun k hk => (hg.block k (by simp; omega) (fun e => by have := hge k e; omega)).trans (blk_old _ _ (by omega))
  have f1 : w5.heap[hB]? = some (.cells #[.slice aH m cH] 43 (0, 0)) := (K hB (by omega)).trans e1
  have f2 : (w5.setCell ⟨hB, 0, none⟩ (.slice a (m + 1) c)).heap[hB]? = some (.cells #[.slice a (m + 1) c] 43 (0, 0)) := by
    have := heap_setCell_same w5 hB 0 #[.slice aH m cH] 43 (.slice a (m + 1) c) f1
    simpa using this
  have U5 : Upd W2.heap.size [hB, hB + 1] W2 (w5.setCell ⟨hB, 0, none⟩ (.slice a (m + 1) c)) := by
    refine h.upd.trans ⟨hg.os, hg.tape, hg.output, by rw [set_size]; omega, fun k hk ht => (set_other _ _ (fun e => ht (by simp only at e; simp [e]))).trans (K k hk)⟩
  refine ⟨f1, (set_other _ _ (by simp)).trans ((K (hB + 1) (by omega)).trans h.rb), U5, fun w7 v' r7 u7 => ?_⟩
  have hz6 := U5.size
  have g1 : w7.heap[hB]? = some (.cells #[.slice a (m + 1) c] 43 (0, 0)) := (u7.block hB (by omega) (by simp)).trans f2
  refine ⟨⟨⟨a, c, g1, ?_⟩, r7, U5.trans (u7.mono hz6 (fun x _ hx => by simp at hx; simp [hx]))⟩, cell_of_blk g1 (i := 0) rfl⟩
  have hrow6 : (w5.setCell ⟨hB, 0, none⟩ (.slice a (m + 1) c)).ownsRow W2.heap.size 52 1 (.slice a (m + 1) c) (m + 1) ((s.take m).map (fun i => ptr (A.pb i)) ++ [ptr (A.pb q)]) := own_of_block hown (fun k hk => set_other _ _ (by have := (hown.lt k hk).1; simp only; omega))
  have e : (s.take (m + 1)).map (fun i => ptr (A.pb i)) = (s.take m).map (fun i => ptr (A.pb i)) ++ [ptr (A.pb q)] := by
    obtain ⟨hl, hv⟩ := List.getElem?_eq_some_iff.1 hq
    rw [List.take_succ_eq_append_getElem hl, List.map_append, hv]; rfl
  rw [e]
  exact own_of_block hrow6 (fun k hk => u7.block k (hrow6.lt k hk).2 (by have := (hrow6.lt k hk).1; simp; omega))

/-- What 'makeRoom' answers. -/
def MadeRoom (A : Ad) (loc : Nat → Option Nat) (room : Nat → Int) (t j : Nat) (e : Ending) (w' : World) : Prop :=
  (haltM A.wt t (sorted A.k loc A.pri t j) 0 (room j) = none → e = .returned (.tuple #[.slice none 0 0, .bool false])) ∧
  (∀ m, haltM A.wt t (sorted A.k loc A.pri t j) 0 (room j) = some m → ∃ a c, e = .returned (.tuple #[.slice a m c, .bool true]) ∧ m ≤ (sorted A.k loc A.pri t j).length ∧ (0 < m → ∃ b, a = some ⟨b, 0, none⟩ ∧ ∀ i, i < m → w'.cell? ⟨b, i, none⟩ = some (ptr (A.pb ((sorted A.k loc A.pri t j).getD i 0)))))

section
variable {A : Ad} {loc : Nat → Option Nat} {room cnt : Nat → Int} {N : Nat}

set_option maxRecDepth 100000 in
set_option maxHeartbeats 4000000 in
theorem makeRoom_any (w : World) (h : Pln A w loc room cnt N) (hN : N ≤ 100) (t j gb cg : Nat) (ht : t < A.k) (hj : j < 3) (hg : w.cell? ⟨gb, 0, none⟩ = some (ptr (A.pb t))) :
    Calls Yba.prog 15 #[ptr A.pl, ptr (A.pb t), .string (nnm j), .slice (some ⟨gb, 0, none⟩) 1 cg] w fun e w' => Below w.heap.size w w' ∧ MadeRoom A loc room t j e w' := by
  obtain ⟨i0, hi0, hz0, hz1, hz2⟩ := info_parts Yba.info52
  have k6 := h.fix.pk.k6
  have bA : Below w.heap.size w (w.alloc (.cells #[.slice none 0 0] 43)) := (Below.refl _ _).alloc (Nat.le_refl _) _
  have hA := h.below bA
  have hneeds := needs_any A.c (A.pb t) (w.alloc (.cells #[.slice none 0 0] 43)) (hA.fix.pk.deps ht)
  have aon : (w.alloc (.cells #[.slice none 0 0] 43)).heap[w.heap.size]? = some (.cells #[.slice none 0 0] 43) := blk_new _ _
  have p0 := hA.fix.plCell.1
  have lpl := h.fix.lt (b := A.pl) (.inl rfl)
  have after : ∀ w1, Below (w.alloc (.cells #[.slice none 0 0] 43)).heap.size (w.alloc (.cells #[.slice none 0 0] 43)) w1 → L1 A w w1 w.heap.size [] [] (.slice none 0 0) w1 ∧ w1.cell? ⟨A.pl, 0, none⟩ = some (ptr A.c) ∧ w1.cell? ⟨A.c, 11, none⟩ = some (.slice (some ⟨A.pr, 0, none⟩) A.k A.cpk) := fun w1 hbn => by
    have hz1w : w.heap.size + 1 ≤ w1.heap.size := by have := hbn.size; simp at this; omega
    have b1 : Below w.heap.size w w1 := bA.trans (hbn.mono (by simp))
    have h1 := h.below b1
    exact ⟨⟨⟨.slice none 0 0, (hbn.block _ (by simp)).trans aon, World.ownsRow_nil _ _ _ _, fun b hb => (nomatch hb)⟩, World.ownsRow_nil _ _ _ _, b1, by omega, Nat.le_refl _, Nat.le_refl _, fun _ _ _ => rfl⟩, h1.fix.plCell.1, h1.fix.cpk⟩
  have H0 := hide (And.intro h (And.intro hg after))
  clear hA aon bA h hg after
  go_enter Yba.func15, Yba.ntmps15
  go_wp2_with (go_at_call 22; refine hneeds.mono ?_; rintro e w1 ⟨nb, nc, rfl, hn0, hn1, hbn⟩; obtain ⟨hS1, p0', c11⟩ := (unhide H0).2.2 w1 hbn; have H1 := hide (And.intro hS1 (And.intro hn0 hn1)); clear hS1 hn0 hn1 hbn)
  clear hneeds p0
  generalize hBe : w.heap.size = onB at H1 ⊢
  have HBE := hide hBe
  clear hBe
  clear p0' c11
  go_loopw [11, 35] (fun v11 iv wx => ∃ (i : Nat) (ys : List Nat), i ≤ A.k ∧ iv = .int .i64 i ∧ (∀ y ∈ ys, y < A.k) ∧ ys.length ≤ i ∧ L1 A w w1 onB ys (cands i loc A.pri t j) v11 wx) (fun _ iv _ => A.k - (intOf iv).toNat)
  case atStart => exact ⟨0, [], Nat.zero_le _, rfl, by simp, Nat.le_refl _, (unhide H1).1⟩
  case round =>
    obtain ⟨i, ys, hik, rfl, hys, hyl, hL⟩ := hrel
    obtain ⟨a11, c11, hv11⟩ := own_slice hL.cand
    subst hv11
    have HL := hide hL
    by_cases hkl : i < A.k
    · obtain ⟨h, hg, _⟩ := unhide H0
      have hx := h.below hL.bel
      have c0 := hx.fix.row i hkl
      have d3 : wr.drew.cell? ⟨A.pl, 3, none⟩ = some (.map (some A.pm)) := hx.fix.plCell.2.1
      have d0 : wr.drew.cell? ⟨A.pb i, 0, none⟩ = some (.string (pnm i)) := hx.fix.pk.name hkl
      have lk := (hx.below (w' := wr.drew) (Below.refl _ _).drew).lookPlaced hkl
      by_cases hlo : loc i = some j
      · rw [hlo] at lk
        simp only [Option.map_some, Option.getD_some] at lk
        have hLd := hL.drew1
        obtain ⟨von, hon, hrow, hap⟩ := hLd.on
        obtain ⟨ao, co, hvo⟩ := own_slice hrow
        subst hvo
        have on0 := cell_of_blk hon (i := 0) rfl
        have hlt := hLd.lt
        have hszx := hLd.sz
        have hyk : ys.length ≤ 6 := by omega
        have HC := hide (And.intro hLd (And.intro hon hap))
        have hpt4 := hx.fix.pk.p4 t
        have hpi4 := hx.fix.pk.p4 i
        clear hLd hon hap hL hx h hg
        go_wp2
        go_region_held3 (fun W => W.cell? ⟨A.pl, 3, none⟩ = some (.map (some A.pm)) ∧ W.cell? ⟨A.pb i, 0, none⟩ = some (.string (pnm i))) (with_reducible first | exact ⟨by assumption, by assumption⟩) (first | fail)
        clear lk d3 d0 c0
        generalize wr.drew = wd at hrow on0 HC hszx ⊢
        go_wp2_with (at_builtin; refine wpList_append_own_at _ rfl _ _ 43 rfl w1.heap.size 52 i0 (.pointer none) 1 8 Yba.underlying43 hi0 hz0 hz1 hz2 rfl (by decide) _ _ _ rfl (hrow.alloc _) ⟨wd.heap.size, 0, none⟩ 1 1 [ptr (A.pb i)] rfl rfl (cell_one_new _ _ _) (by simp [Value.oneCell']) (by unfold maxLen; omega) (by omega) (by simp; omega) ?_)
        intro v2 w2 hown2 hgrow2 _ hat2
        obtain ⟨hLd, hon, hap⟩ := unhide HC
        have hL2 := hLd.pushOn hon hrow hap hown2 hgrow2 hat2
        obtain ⟨a2, c2, rfl⟩ := own_slice hown2
        have hon2 : w2.heap[onB]? = some (.cells #[.slice ao ys.length co] 43 (0, 0)) := (hgrow2.block onB (by simp; have := hLd.sz; exact Nat.lt_succ_of_lt (Nat.lt_of_lt_of_le hlt this)) (fun e => by have := (hrow.lt onB e.symm).1; omega)).trans ((blk_old _ _ (by have := hLd.sz; exact Nat.lt_of_lt_of_le hlt this)).trans hon)
        have s0 := cell_of_blk hon2 (i := 0) rfl
        have s0f := frozen_of_blk hon2 0
        obtain ⟨h, hg, _⟩ := unhide H0
        have hx2 := h.below hL2.bel
        have hpr1 := priority_any (A.pb i) (A.pri i) (w2.setCell ⟨onB, 0, none⟩ (.slice a2 (ys.length + 1) c2)) (hx2.fix.pk.prio hkl) hpi4
        have hpr2 := priority_any (A.pb t) (A.pri t) (w2.setCell ⟨onB, 0, none⟩ (.slice a2 (ys.length + 1) c2)) (hx2.fix.pk.prio ht) hpt4
        have hcn : ∀ x : Nat, x < A.k → Calls Yba.prog 24 #[.slice (some ⟨nb, 0, none⟩) 1 nc, ptr (A.pb x)] (w2.setCell ⟨onB, 0, none⟩ (.slice a2 (ys.length + 1) c2)) fun e w' => e = .returned (.bool (decide (A.pb x ∈ [A.pb t]))) ∧ w' = w2.setCell ⟨onB, 0, none⟩ (.slice a2 (ys.length + 1) c2) := fun x hxk => by
          refine contains_any _ 1 nc [A.pb t] (A.pb x) _ (by omega) rfl (hx2.fix.pk.cells hxk) (fun y hy => by simp at hy; subst hy; exact hx2.fix.pk.cells ht) (fun _ => ⟨nb, rfl, fun i hi => ?_⟩)
          have hi0' : i = 0 := by omega
          subst hi0'
          have hnb := (unhide H1).2.1
          have hnb2 := (unhide H1).2.2
          have := cell_lt hnb
          rw [World.cell?_of_block (w := w1) (hL2.b1 nb this (by have := unhide HBE; simp at hnb2; omega))]
          exact hnb
        have HL2 := hide hL2
        have hcand2 := hL2.cand
        have hsz2 := hL2.sz
        have hcl : (cands i loc A.pri t j).length ≤ 6 := by
          have : (cands i loc A.pri t j).length ≤ i := Nat.le_trans (List.length_filter_le _ _) (by simp)
          omega
        clear hL2 hLd hon hap hown2 hgrow2 hat2 hrow hon2 hx2 h hg on0 HC
        by_cases hpri : prM (A.pri t) < prM (A.pri i)
        · have hcn' := hcn i hkl
          have hnt : A.pb i ∉ [A.pb t] := fun hm => by
            simp at hm
            have e := (unhide H0).1.fix.pk.inj i t hkl ht hm
            rw [e] at hpri
            omega
          rw [decide_eq_false hnt] at hcn'
          have HCS := hide (cands_succ i loc A.pri t j)
          have hci : loc i = some j ∧ prM (A.pri t) < prM (A.pri i) := ⟨hlo, hpri⟩
          have HCI := hide hci
          clear hcn hnt hci hlo
          go_wp2_with (first | (go_at_call_of 23 (ptr (A.pb i)); refine hpr1.mono ?_; rintro e w' ⟨rfl, hw⟩; rw [hw]; clear hw w') | (go_at_call_of 23 (ptr (A.pb t)); refine hpr2.mono ?_; rintro e w' ⟨rfl, hw⟩; rw [hw]; clear hw w') | (go_at_call 24; refine hcn'.mono ?_; rintro e w' ⟨rfl, hw⟩; rw [hw]; clear hw w') | (at_builtin; refine wpList_append_own_at _ rfl _ _ 43 rfl w1.heap.size 52 i0 (.pointer none) 1 8 Yba.underlying43 hi0 hz0 hz1 hz2 rfl (by decide) _ _ _ rfl (hcand2.alloc _) ⟨w2.heap.size, 0, none⟩ 1 1 [ptr (A.pb i)] rfl rfl (by have := cell_one_new (w2.setCell ⟨onB, 0, none⟩ (.slice a2 (ys.length + 1) c2)) (ptr (A.pb i)) 52; rw [set_size] at this; exact this) (by simp [Value.oneCell']) (by unfold maxLen; omega) (by omega) (by simp; rw [set_size] at hsz2; omega) ?_))
          intro v3 w3 hown3 hgrow3 _ hat3
          have hL3 := (unhide HL2).pushCand hown3 hgrow3 (by rw [set_size]; exact hat3)
          have H3 := hide hL3
          clear hL3 hown3 hgrow3 hat3 hcand2 hpr1 hpr2 hcn' HL2
          go_wp2
          refine ⟨⟨i + 1, ys ++ [i], by omega, by go_num, fun y hy => ?_, by simp; omega, by rw [unhide HCS, if_pos (unhide HCI)]; exact unhide H3⟩, by simp [intOf]; omega⟩
          rcases List.mem_append.1 hy with hy | hy
          · exact hys y hy
          · simp at hy; omega
        · have HCS := hide (cands_succ i loc A.pri t j)
          have HPR := hide hpri
          clear hcn hlo hcand2
          go_wp2_with (first | (go_at_call_of 23 (ptr (A.pb i)); refine hpr1.mono ?_; rintro e w' ⟨rfl, hw⟩; rw [hw]; clear hw w') | (go_at_call_of 23 (ptr (A.pb t)); refine hpr2.mono ?_; rintro e w' ⟨rfl, hw⟩; rw [hw]; clear hw w'))
          refine ⟨⟨i + 1, ys ++ [i], by omega, by go_num, fun y hy => ?_, by simp; omega, by rw [unhide HCS, if_neg (fun h => absurd h.2 (Int.not_lt.2 (unhide HPR))), List.append_nil]; exact unhide HL2⟩, by simp [intOf]; omega⟩
          rcases List.mem_append.1 hy with hy | hy
          · exact hys y hy
          · simp at hy; omega
      · obtain ⟨sv, hsv, hsn⟩ : ∃ sv : ByteArray, ((loc i).map (fun j => Value.string (nnm j))).getD (.string ByteArray.empty) = .string sv ∧ sv ≠ nnm j := by
          cases hl : loc i with
          | none =>
            refine ⟨ByteArray.empty, rfl, fun e => ?_⟩
            have key : ∀ a : Fin 3, nnm a ≠ ByteArray.empty := by decide
            exact key ⟨j, hj⟩ e.symm
          | some r =>
            refine ⟨nnm r, rfl, fun e => hlo ?_⟩
            rw [hl, nnm_inj (hx.loc3 i r hl) hj e]
        rw [hsv] at lk
        have hse : (sv.toList == (nnm j).toList) = false := by rw [str_same']; exact decide_eq_false hsn
        have HLd := hide hL.drew1
        have HCS := hide (cands_succ i loc A.pri t j)
        have HLO := hide hlo
        clear hL hx h hg hsn hsv hlo
        go_wp2
        go_region_held3 (fun W => W.cell? ⟨A.pl, 3, none⟩ = some (.map (some A.pm)) ∧ W.cell? ⟨A.pb i, 0, none⟩ = some (.string (pnm i))) (with_reducible first | exact ⟨by assumption, by assumption⟩) (first | fail)
        go_wp2
        refine ⟨⟨i + 1, ys, by omega, by go_num, hys, by omega, by rw [unhide HCS, if_neg (fun h => unhide HLO h.1), List.append_nil]; exact unhide HLd⟩, by simp [intOf]; omega⟩
    · have hke : A.k = i := by omega
      rename World => wq
      have hLk : L1 A w w1 onB ys (cands A.k loc A.pri t j) (.slice a11 (cands A.k loc A.pri t j).length c11) wq := by rw [hke]; exact hL
      obtain ⟨h, hg, _⟩ := unhide H0
      have hx := h.below hL.bel
      have hon := hL.on
      obtain ⟨von, hon, hrow, _⟩ := hon
      obtain ⟨ao, co, hvo⟩ := own_slice hrow
      subst hvo
      have hlt := hL.lt
      have hge := hL.ge
      have hszx := hL.sz
      have hcl : (cands A.k loc A.pri t j).length ≤ 6 := by
        have : (cands A.k loc A.pri t j).length ≤ A.k := Nat.le_trans (List.length_filter_le _ _) (by simp)
        omega
      have hrow3 := hLk.cand
      clear hL HL
      obtain ⟨s, hs⟩ : ∃ s, s = sorted A.k loc A.pri t j := ⟨_, rfl⟩
      have hsrt := sorted_is k6 loc A.pri t j
      rw [← hs] at hsrt
      obtain ⟨cs, hcs⟩ : ∃ cs, cs = cands A.k loc A.pri t j := ⟨_, rfl⟩
      rw [← hcs] at hsrt hcl hrow3
      have hcsk : ∀ q ∈ cs, q < A.k := fun q hq => (mem_cands.1 (by rw [← hcs]; exact hq)).1
      have hv11 : (Value.slice a11 (cands i loc A.pri t j).length c11) = .slice a11 cs.length c11 := by rw [hcs, hke]
      rw [hv11]
      have hbwr := hLk.bel
      clear hLk
      -- the two blocks more
      have q4 := hx.fix.plCell.2.2.1
      have lkr : (Instr.lookup 74 (.map (some A.rm)) (.string (nnm j)) false).run Yba.prog (wq.alloc (.cells #[.slice none 0 0] 43)) = .ok (.map (some (A.rb j))) (wq.alloc (.cells #[.slice none 0 0] 43)) := Fix.lookRoom (hx.below ((Below.refl _ _).alloc (Nat.le_refl _) _)).fix hj
      have hcl29 := clone29 (A.rb j) (room j) (wq.alloc (.cells #[.slice none 0 0] 43)) ((blk_old _ _ (blk_lt (hx.rmap j hj))).trans (hx.rmap j hj))
      have hszl : (wq.alloc (.cells #[.slice none 0 0] 43)).heap.size = wq.heap.size + 1 := by simp
      have q4' : (wq.alloc (.cells #[.slice none 0 0] 43)).cell? ⟨A.pl, 4, none⟩ = some (.map (some A.rm)) := cell_alloc _ q4
      have lpl' : A.pl < wq.heap.size := cell_lt q4
      obtain ⟨W2, hW2⟩ : ∃ W2, W2 = (wq.alloc (.cells #[.slice none 0 0] 43)).alloc (oneMap (room j)) := ⟨_, rfl⟩
      have bW2 : Below wq.heap.size wq W2 := by rw [hW2]; exact ((Below.refl _ _).alloc (Nat.le_refl _) _).alloc (by simp) _
      have hW2s : W2.heap.size = wq.heap.size + 2 := by rw [hW2]; simp
      have hL2 : L2 A W2 wq.heap.size (wq.heap.size + 1) s 0 (room j) W2 := by
        refine ⟨⟨none, 0, ?_, World.ownsRow_nil _ _ _ _⟩, ?_, Upd.refl _ _ _⟩
        · rw [hW2, blk_old _ _ (by simp)]; exact blk_new _ _
        · rw [hW2]
          have := blk_new (wq.alloc (.cells #[.slice none 0 0] 43)) (oneMap (room j))
          rw [hszl] at this
          exact this
      have facts : ∀ wx, Upd W2.heap.size [wq.heap.size, wq.heap.size + 1] W2 wx → Below w.heap.size w wx ∧ wx.heap[onB]? = some (.cells #[.slice ao ys.length co] 43 (0, 0)) ∧ Rw w1.heap.size A wx (.slice ao ys.length co) ys ∧ Rw w1.heap.size A wx (.slice a11 cs.length c11) cs := fun wx hU => by
        have hb : ∀ b, b < wq.heap.size → wx.heap[b]? = wq.heap[b]? := fun b hb => (hU.block b (by omega) (by simp; omega)).trans (bW2.block b hb)
        have hbq := hbwr.size
        refine ⟨⟨hU.os.trans (bW2.os.trans hbwr.os), hU.tape.trans (bW2.tape.trans hbwr.tape), hU.output.trans (bW2.output.trans hbwr.output), by have := hU.size; omega, fun b hb' => (hb b (by omega)).trans (hbwr.block b hb')⟩, (hb onB (by omega)).trans hon, own_of_block hrow (fun k hk => hb k (hrow.lt k hk).2), own_of_block hrow3 (fun k hk => hb k (hrow3.lt k hk).2)⟩
      have hslen : s.length ≤ 6 := by
        have e : s.length = cs.length := by rw [hs, hcs]; unfold sorted; rw [List.length_mergeSort]
        omega
      have HW := hide (And.intro hL2 (And.intro facts (And.intro hs (And.intro hsrt hcsk))))
      have hbnd := hx.rm j hj
      have HCK := hide (And.intro hke hcs)
      clear hL2 facts bW2 hon hrow hrow3 hbwr hx h hg hsrt hs hv11 hcsk hke hcs
      go_wp2_with (go_at_call 29; refine hcl29.mono ?_; rintro e w' ⟨rfl, hw⟩; rw [hw]; clear hw w')
      rw [← hW2]
      clear hcl29 lkr q4 q4' hW2 hszl
      have hrm0 : -400 ≤ room j ∧ room j ≤ 655 := by omega
      clear hbnd
      go_loopw [18] (fun _ wx => ∃ (m : Nat) (v : Int), m ≤ s.length ∧ room j ≤ v ∧ v ≤ room j + 4 * m ∧ haltM A.wt t (s.drop m) m v = haltM A.wt t s 0 (room j) ∧ L2 A W2 wq.heap.size (wq.heap.size + 1) s m v wx) (fun _ wx => s.length - hlen (wx.cell? ⟨wq.heap.size, 0, none⟩))
      case atStart => exact ⟨0, room j, Nat.zero_le _, Int.le_refl _, by omega, rfl, (unhide HW).1⟩
      case round =>
        obtain ⟨m, v, hm, hv0, hv1, hhm, hL⟩ := hrel
        obtain ⟨h, hg, _⟩ := unhide H0
        obtain ⟨_, facts, hs, hsrt, hcsk⟩ := unhide HW
        obtain ⟨hbx, hon, hrow, hcrow⟩ := facts wr hL.upd
        have hx := h.below hbx
        have hgx := (hbx.cell (p := ⟨gb, 0, none⟩) (cell_lt hg)).trans hg
        have hw4 := hx.fix.pk.w4 t
        have hfits := fits_any A.c (A.pb t) (A.wb t) (wq.heap.size + 1) gb cg v (A.wt t) wr (hx.fix.pk.weights ht) (hx.fix.pk.wm t ht) hL.rb hgx (by omega) (by omega)
        have p0 := hx.fix.plCell.1
        have lbx := hbx.size
        by_cases hf : 0 ≤ v - A.wt t
        · rw [decide_eq_true hf] at hfits
          have hfin : ∀ w2, Below wr.heap.size wr w2 → ∃ a c, w2.cell? ⟨wq.heap.size, 0, none⟩ = some (.slice a m c) ∧ Below w.heap.size w w2 ∧ MadeRoom A loc room t j (.returned (.tuple #[.slice a m c, .bool true])) w2 := fun w2 hb2 => by
            have hL' := hL.below hb2
            obtain ⟨a, c, e1, e2⟩ := hL'.ex
            refine ⟨a, c, cell_of_blk e1 (i := 0) rfl, hbx.trans (hb2.mono lbx), ?_⟩
            have hh : haltM A.wt t s 0 (room j) = some m := by rw [← hhm]; exact haltM_stop hf
            unfold MadeRoom
            rw [← hs]
            refine ⟨fun e => (by rw [hh] at e; cases e), fun m' e => ?_⟩
            rw [hh] at e; cases e
            refine ⟨a, c, rfl, hm, fun hpos => ?_⟩
            obtain ⟨b, rfl, _, _, hc⟩ := own_at0 e2 hpos
            refine ⟨b, rfl, fun i hi => hc i _ ?_⟩
            have hil : i < s.length := by omega
            rw [List.getElem?_map, List.getElem?_take_of_lt hi, List.getElem?_eq_getElem hil, List.getD, List.getElem?_eq_getElem hil]
            rfl
          have HFIN := hide hfin
          clear hfin hL hx hon hrow hcrow facts hs hsrt hcsk h hg hhm hf hgx hbx
          go_wp2_with (go_at_call 21; refine hfits.mono ?_; rintro e w2 ⟨rfl, hb2⟩; obtain ⟨af, cf, e1, e2, e3⟩ := unhide HFIN w2 hb2; have HE := hide (And.intro e2 e3); clear e2 e3 hb2)
          go_ret2
          exact unhide HE
        · rw [decide_eq_false hf] at hfits
          -- what each look at a candidate finds
          have look : ∀ wy, Below wr.heap.size wr wy → ∀ q, q < A.k → ∃ aH cH, Calls Yba.prog 24 #[.slice aH m cH, ptr (A.pb q)] wy (fun e w' => e = .returned (.bool (decide (q ∈ s.take m))) ∧ w' = wy) ∧ wy.cell? ⟨wq.heap.size, 0, none⟩ = some (.slice aH m cH) ∧
              Calls Yba.prog 25 #[ptr (A.pb q), ptr onB, ptr wq.heap.size] wy (fun e w' => e = .returned (.bool false) ∧ Below wy.heap.size wy w') := fun wy hby q hqk => by
            have hLy := hL.below hby
            obtain ⟨_, hony, hrowy, _⟩ := facts wy hLy.upd
            have hxy := hx.below hby
            obtain ⟨aH, cH, e1, e2⟩ := hLy.ex
            have hlenm : ((s.take m).map A.pb).length = m := by simp; omega
            have hsk : ∀ y ∈ s.take m, y < A.k := fun y hy => hcsk y ((hsrt.mem y).1 (List.mem_of_mem_take hy))
            have hcs' : ∀ y ∈ (s.take m).map A.pb, IsCells wy y := fun y hy => by
              obtain ⟨z, hz, rfl⟩ := List.mem_map.1 hy
              exact hxy.fix.pk.cells (hsk z hz)
            have hrow' : 0 < m → ∃ b, aH = some ⟨b, 0, none⟩ ∧ ∀ i, i < m → wy.cell? ⟨b, i, none⟩ = some (ptr (((s.take m).map A.pb).getD i 0)) := fun hpos => by
              obtain ⟨b, rfl, _, _, hc⟩ := own_at0 e2 hpos
              refine ⟨b, rfl, fun i hi => hc i _ ?_⟩
              have hil : i < (s.take m).length := by simp; omega
              rw [List.getElem?_map, List.getElem?_eq_getElem hil, List.getD, List.getElem?_map, List.getElem?_eq_getElem hil]
              rfl
            refine ⟨aH, cH, ?_, cell_of_blk e1 (i := 0) rfl, ?_⟩
            · have := contains_any aH m cH ((s.take m).map A.pb) (A.pb q) wy (by omega) hlenm (hxy.fix.pk.cells hqk) hcs' hrow'
              have e : decide (A.pb q ∈ (s.take m).map A.pb) = decide (q ∈ s.take m) := decide_eq_decide.2 ⟨fun hm' => by
                obtain ⟨z, hz, e⟩ := List.mem_map.1 hm'
                rw [← hxy.fix.pk.inj z q (hsk z hz) hqk e]; exact hz, fun hm' => List.mem_map.2 ⟨q, hm', rfl⟩⟩
              rw [e] at this
              exact this
            · refine dependedOn_any onB wq.heap.size (A.pb q) ao ys.length co (ys.map A.pb) aH m cH ((s.take m).map A.pb) (pnm q) wy (cell_of_blk e1 (i := 0) rfl) (by omega) hlenm hcs' hrow' (cell_of_blk hony (i := 0) rfl) (hxy.fix.pk.name hqk) (by omega) (by simp) (fun y hy => ?_) (fun hpos => ?_)
              · obtain ⟨z, hz, rfl⟩ := List.mem_map.1 hy
                exact ⟨hxy.fix.pk.cells (hys z hz), hxy.fix.pk.deps (hys z hz)⟩
              · obtain ⟨b, rfl, _, _, hc⟩ := own_at0 hrowy hpos
                refine ⟨b, rfl, fun i hi => hc i _ ?_⟩
                rw [List.getElem?_map, List.getElem?_eq_getElem hi, List.getD, List.getElem?_map, List.getElem?_eq_getElem hi]
                rfl
          have cand : ∀ wy, Below wr.heap.size wr wy → ∀ c, c < cs.length → ∃ cb, a11 = some ⟨cb, 0, none⟩ ∧ wy.cell? ⟨cb, c, none⟩ = some (ptr (A.pb (cs.getD c 0))) ∧ cs.getD c 0 < A.k ∧ cs.getD c 0 ∈ cs ∧ cs.take (c + 1) = cs.take c ++ [cs.getD c 0] := fun wy hby c hc => by
            obtain ⟨_, _, _, hcr⟩ := facts wy (hL.below hby).upd
            obtain ⟨cb, rfl, _, _, hcc⟩ := own_at0 hcr (by omega)
            have e : cs.getD c 0 = cs[c] := by rw [List.getD, List.getElem?_eq_getElem hc]; rfl
            rw [e]
            exact ⟨cb, rfl, hcc c _ (by rw [List.getElem?_map, List.getElem?_eq_getElem hc]; rfl), hcsk _ (List.getElem_mem hc), List.getElem_mem hc, List.take_succ_eq_append_getElem hc⟩
          have prc : ∀ wy, Below wr.heap.size wr wy → ∀ q r, q < A.k → r < A.k → Calls Yba.prog 30 #[ptr (A.pb q), ptr (A.pb r)] wy (fun e w' => e = .returned (.int .i64 (rankZ q r (A.pri q) (A.pri r))) ∧ Below wy.heap.size wy w') := fun wy hby q r hq hr => by
            have hxy := hx.below hby
            exact rank_any (A.pb q) (A.pb r) q r (A.pri q) (A.pri r) (by omega) (by omega) (hxy.fix.pk.p4 q) (hxy.fix.pk.p4 r) wy (hxy.fix.pk.name hq) (hxy.fix.pk.prio hq) (hxy.fix.pk.name hr) (hxy.fix.pk.prio hr)
          have p4a := hx.fix.pk.p4
          have HK := hide (And.intro look (And.intro cand (And.intro prc (And.intro hL (And.intro hhm (And.intro hf hbx))))))
          clear look cand prc hL hx hon hrow hcrow facts hs hsrt hcsk h hg hhm hf hgx hbx
          go_wp2_with (go_at_call 21; refine hfits.mono ?_; rintro e w2 ⟨rfl, hb2⟩)
          clear hfits p0
          rename World => wv
          go_loopw [18, 88] (fun nv iv wy => ∃ (c : Nat) (nx : Option Nat), c ≤ cs.length ∧ iv = .int .i64 c ∧ nv = ((nx.map (fun q => ptr (A.pb q))).getD (.pointer none)) ∧ (nx = none → ∀ q ∈ cs.take c, q ∈ s.take m) ∧ (∀ q, nx = some q → q < A.k ∧ q ∈ cs.take c ∧ q ∉ s.take m ∧ ∀ q' ∈ cs.take c, q' ∉ s.take m → rk A.pri q' ≤ rk A.pri q) ∧ Below wr.heap.size wr wy) (fun _ iv _ => cs.length - (intOf iv).toNat)
          case atStart => exact ⟨0, none, Nat.zero_le _, rfl, rfl, by simp, by simp, hb2⟩
          case round =>
            obtain ⟨c, nx, hc, rfl, rfl, hn1, hn2, hby⟩ := hrel
            by_cases hcl2 : c < cs.length
            · obtain ⟨cb, rfl, q0, hqk, hqm, htk⟩ := (unhide HK).2.1 wr hby c hcl2
              generalize cs.getD c 0 = q at q0 hqk hqm htk
              obtain ⟨aH, cH, hcon, hh, hdep⟩ := (unhide HK).1 wr hby q hqk
              have HN := hide (And.intro hn1 (And.intro hn2 (And.intro htk hby)))
              have hzy := hby.size
              clear hn1 hn2 htk
              by_cases hqs : q ∈ s.take m
              · rw [decide_eq_true hqs] at hcon
                have HQ := hide hqs
                clear hqs hdep hby
                go_wp2_with (go_at_call 24; refine hcon.mono ?_; rintro e w' ⟨rfl, hw⟩; rw [hw]; clear hw w')
                obtain ⟨hn1, hn2, htk, hby⟩ := unhide HN
                refine ⟨⟨c + 1, nx, by omega, by go_num, rfl, fun e => ?_, fun r hr => ?_, hby⟩, by simp [intOf]; omega⟩
                · rw [htk]
                  intro z hz
                  rcases List.mem_append.1 hz with hz | hz
                  · exact hn1 e z hz
                  · simp at hz; rw [hz]; exact unhide HQ
                · obtain ⟨r1, r2, r3, r4⟩ := hn2 r hr
                  rw [htk]
                  refine ⟨r1, List.mem_append_left _ r2, r3, fun z hz hzs => ?_⟩
                  rcases List.mem_append.1 hz with hz | hz
                  · exact r4 z hz hzs
                  · simp at hz; rw [hz] at hzs; exact absurd (unhide HQ) hzs
              · rw [decide_eq_false hqs] at hcon
                have HQ := hide hqs
                clear hqs
                cases nx with
                | none =>
                  clear hby
                  go_wp2_with (first | (go_at_call 24; refine hcon.mono ?_; rintro e w' ⟨rfl, hw⟩; rw [hw]; clear hw w') | (go_at_call 25; refine hdep.mono ?_; rintro e w4 ⟨rfl, hb4⟩))
                  obtain ⟨hn1, hn2, htk, hby⟩ := unhide HN
                  refine ⟨⟨c + 1, some q, by omega, by go_num, rfl, fun e => (nomatch e), fun r hr => ?_, hby.trans (hb4.mono hzy)⟩, by simp [intOf]; omega⟩
                  cases hr
                  rw [htk]
                  refine ⟨hqk, by simp, unhide HQ, fun z hz hzs => ?_⟩
                  rcases List.mem_append.1 hz with hz | hz
                  · exact absurd (hn1 trivial z hz) hzs
                  · simp at hz; rw [hz]; exact Nat.le_refl _
                | some r =>
                  obtain ⟨r1, r2, r3, r4⟩ := (unhide HN).2.1 r rfl
                  have hrank : ∀ w4, Below wr.heap.size wr w4 → Calls Yba.prog 30 #[ptr (A.pb q), ptr (A.pb r)] w4 (fun e w' => e = .returned (.int .i64 (rankZ q r (A.pri q) (A.pri r))) ∧ Below w4.heap.size w4 w') := fun w4 hb4 => (unhide HK).2.2.1 w4 (hby.trans (hb4.mono hzy)) q r hqk r1
                  have hri := rank_iff (pri := A.pri) (i := q) (j := r) (by omega) (by omega) p4a
                  clear hby r2 r3
                  have HR4 := hide r4
                  clear r4
                  generalize rankZ q r (A.pri q) (A.pri r) = z at hrank hri
                  by_cases hz : 0 < z
                  · have hrk := hri.1 hz
                    clear hri
                    go_wp2_with (first | (go_at_call 24; refine hcon.mono ?_; rintro e w' ⟨rfl, hw⟩; rw [hw]; clear hw w') | (go_at_call 25; refine hdep.mono ?_; rintro e w4 ⟨rfl, hb4⟩) | (go_at_call 30; refine (hrank w4 hb4).mono ?_; rintro e w5 ⟨rfl, hb5⟩))
                    obtain ⟨hn1, hn2, htk, hby⟩ := unhide HN
                    refine ⟨⟨c + 1, some q, by omega, by go_num, rfl, fun e => (nomatch e), fun r' hr => ?_, (hby.trans (hb4.mono hzy)).trans (hb5.mono (by have := hb4.size; omega))⟩, by simp [intOf]; omega⟩
                    cases hr
                    rw [htk]
                    refine ⟨hqk, by simp, unhide HQ, fun z hz hzs => ?_⟩
                    rcases List.mem_append.1 hz with hz | hz
                    · have := unhide HR4 z hz hzs; omega
                    · simp at hz; rw [hz]; exact Nat.le_refl _
                  · have hrk : ¬ rk A.pri r < rk A.pri q := fun e => hz (hri.2 e)
                    clear hri
                    have HRK := hide hrk
                    clear hrk
                    go_wp2_with (first | (go_at_call 24; refine hcon.mono ?_; rintro e w' ⟨rfl, hw⟩; rw [hw]; clear hw w') | (go_at_call 25; refine hdep.mono ?_; rintro e w4 ⟨rfl, hb4⟩) | (go_at_call 30; refine (hrank w4 hb4).mono ?_; rintro e w5 ⟨rfl, hb5⟩))
                    obtain ⟨hn1, hn2, htk, hby⟩ := unhide HN
                    refine ⟨⟨c + 1, some r, by omega, by go_num, rfl, fun e => (nomatch e), fun r' hr => ?_, (hby.trans (hb4.mono hzy)).trans (hb5.mono (by have := hb4.size; omega))⟩, by simp [intOf]; omega⟩
                    cases hr
                    obtain ⟨s1, s2, s3, s4⟩ := hn2 r rfl
                    rw [htk]
                    refine ⟨s1, List.mem_append_left _ s2, s3, fun z hz hzs => ?_⟩
                    rcases List.mem_append.1 hz with hz | hz
                    · exact s4 z hz hzs
                    · simp at hz; rw [hz]; have := unhide HRK; omega
            · have hce : c = cs.length := by omega
              have htk : cs.take c = cs := by rw [hce]; exact List.take_length
              rw [htk] at hn1 hn2
              obtain ⟨_, _, hs, hsrt, hcsk⟩ := unhide HW
              have hnx := next_is hsrt m nx hn1 (fun q hq => ⟨(hn2 q hq).2.1, (hn2 q hq).2.2.1, (hn2 q hq).2.2.2⟩)
              obtain ⟨_, _, _, hL, hhm, hf, hbx⟩ := unhide HK
              have hLy := hL.below hby
              have hzy := hby.size
              cases nx with
              | none =>
                have hml : s.length ≤ m := List.getElem?_eq_none_iff.1 hnx.symm
                have hfin : Below w.heap.size w wr ∧ MadeRoom A loc room t j (.returned (.tuple #[.slice none 0 0, .bool false])) wr := by
                  refine ⟨hbx.trans (hby.mono lbx), ?_⟩
                  have hh : haltM A.wt t s 0 (room j) = none := by rw [← hhm, List.drop_of_length_le hml]; exact haltM_none (Int.not_le.2 hf)
                  unfold MadeRoom
                  rw [← hs]
                  exact ⟨fun _ => rfl, fun m' e => (by rw [hh] at e; cases e)⟩
                have HF := hide hfin
                clear hfin hL hLy hhm hf hbx hby hs hsrt hcsk hnx hn1 hn2 htk
                go_wp2
                go_ret2
                exact unhide HF
              | some q =>
                have hqk := (hn2 q rfl).1
                obtain ⟨aH, cH, e1, e2⟩ := hLy.ex
                obtain ⟨aO, cO, f1, _⟩ := hL.ex
                have hx := (unhide H0).1.below (hbx.trans (hby.mono lbx))
                have hq1 : q < A.k := hqk
                have g0 := cell_of_blk e1 (i := 0) rfl
                have hms : m < s.length := (List.getElem?_eq_some_iff.1 hnx.symm).1
                have hzW := hLy.upd.size
                have HQ := hide (And.intro hLy (And.intro e1 (And.intro e2 (And.intro hnx (And.intro f1 (And.intro hhm (And.intro hf hx)))))))
                clear hL hhm hf hbx hby hs hsrt hcsk hnx hn1 hn2 htk hx e1 f1 hLy
                go_wp2_with (at_builtin; refine wpList_append_own_at _ rfl _ _ 43 rfl W2.heap.size 52 i0 (.pointer none) 1 8 Yba.underlying43 hi0 hz0 hz1 hz2 rfl (by decide) _ _ _ rfl (e2.alloc _) ⟨wr.heap.size, 0, none⟩ 1 1 [ptr (A.pb q)] rfl rfl (cell_one_new _ _ _) (by simp [Value.oneCell']) (by unfold maxLen; omega) (by omega) (by simp; omega) ?_)
                intro v5 w5 hown5 hgrow5 _ _
                obtain ⟨a5, c5, rfl⟩ := own_slice hown5
                obtain ⟨hLy, e1, _, hnx, f1, hhm, hf, hx⟩ := unhide HQ
                obtain ⟨g1, g2, g3, g4⟩ := hLy.push hW2s.symm hnx.symm e1 e2 (by rw [hW2s, List.map_take]; exact hown5) hgrow5
                have s0 := cell_of_blk g1 (i := 0) rfl
                have s0f := frozen_of_blk g1 0
                have hb6 := ((unhide HW).2.1 _ g3).1
                have hx6 := (unhide H0).1.below hb6
                have p6 := hx6.fix.plCell.1
                have hw4q := hx6.fix.pk.w4 q
                have hwq : A.wb q ≠ wq.heap.size + 1 := by
                  have := ((unhide H0).1.fix.pk.lt hq1).2
                  have := unhide HBE
                  omega
                have hgive := give_any A.c (A.pb q) (A.wb q) (wq.heap.size + 1) v (A.wt q) (w5.setCell ⟨wq.heap.size, 0, none⟩ (.slice a5 (m + 1) c5)) (hx6.fix.pk.weights hq1) (hx6.fix.pk.wm q hq1) g2 hwq (by omega) (by omega)
                have HG := hide (And.intro g4 (And.intro f1 (And.intro hhm (And.intro hf hnx))))
                clear g1 g2 g3 g4 hx6 hb6 hLy e1 hnx f1 hhm hf hx hown5 hgrow5 e2 g0 HQ hwq
                go_wp2_with (go_at_call 31; refine hgive.mono ?_; rintro e w7 ⟨rfl, r7, u7⟩)
                clear hgive s0 s0f p6
                obtain ⟨g4, f1, hhm, hf, hnx⟩ := unhide HG
                obtain ⟨hL7, c7⟩ := g4 w7 _ r7 u7
                refine ⟨⟨m + 1, v + A.wt q, by omega, by omega, by omega, ?_, hL7⟩, ?_⟩
                · obtain ⟨hl, hv⟩ := List.getElem?_eq_some_iff.1 hnx.symm
                  rw [← hhm, List.drop_eq_getElem_cons hl, hv, haltM_step (Int.not_le.2 hf)]
                · have e0 := cell_of_blk f1 (i := 0) rfl
                  rw [c7, e0]
                  show s.length - (m + 1) < s.length - m
                  omega
end

end Go.Proofs.Ybulkaibe
