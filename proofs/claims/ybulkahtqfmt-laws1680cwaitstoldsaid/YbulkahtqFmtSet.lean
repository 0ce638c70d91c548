/-
  THE WALK of waitgraph's 'setTargets'.
-/
import Derived.Test.YbulkahtqFmtRecord
import Derived.Test.YbulkahtqFmtInv
namespace Go.Proofs.YbulkahtqFmt
open Go.RowKit Go.WideMaps Go.Maps Kit

section
variable {base : Nat} {R : Nat → Role} {g pm wm : Nat} {T W : Nat → List Nat} {E : Nat × Nat → Option Nat} {nm : Nat → ByteArray} {pf : Lit → Option Value} {N : Nat}

theorem Lay.pushT {w w1 : World} (h : Lay base w R g pm wm T W E nm pf N) {q t : Nat} (hq : R q = .proc) {s : ByteArray} {tv wv v' : Value} {noted : Bool} {o : Obj}
    (hb : w.heap[q]? = some (.cells #[.string (nm q), .string s, tv, wv, .bool noted, .int .i64 0, .int .i64 0, .int .i64 0, .int .i64 0] 102 (0, 0))) {n : Nat} (hn : n = (T q).length) (hrow : RowOf base w R (.rowT q) tv n (ptrs (T q)))
    (hown : w1.ownsRow base 68 1 v' (n + 1) (ptrs (T q) ++ [ptr t])) (hgrow : (w.alloc o).grownBy w1 tv.ownBlock) (hat : v'.ownBlock = tv.ownBlock ∨ v'.ownBlock = some (w.alloc o).heap.size) :
    w1.heap[q]? = w.heap[q]? ∧ ∃ R', Lay base (w1.setCell ⟨q, 2, none⟩ v') R' g pm wm (updF T q (T q ++ [t])) W E nm pf (N + 1) ∧ Fr R R' w (w1.setCell ⟨q, 2, none⟩ v') := by
  subst hn
  obtain ⟨R', hr, hR, hR0, hfr, hblk, hsz, e1, e2, e3⟩ := role_append h.fresh hrow hown hgrow hat
  have hql := h.blt (p := q) (by rw [hq]; nofun)
  have hq1 := hblk q hql (by rw [hq]; nofun)
  have hqR : R' q = .proc := (hR0 q hql).trans hq
  refine ⟨hq1, R', h.turnT hq (by rw [set_size]; exact hsz) (fun k => ?_) (fun k hk _ => hR0 k hk) (fun k hk => hfr k (by rw [set_size] at hk; exact hk)) (fun k hk _ hkq hkr => (set_other _ _ hkq).trans (hblk k hk hkr)) ⟨s, tv, wv, noted, hb, set_blk (i := 2) (hq1.trans hb) v'⟩ ⟨?_, hr.role⟩ (by have := (h.lt q).1; simp; omega) (by omega), ⟨e1, e2, e3, by rw [set_size]; exact hsz, fun k hk e => ⟨(hR0 k hk).trans e, (set_other _ _ (fun e' => by rw [e', hq] at e; cases e)).trans (hblk k hk (by rw [e]; nofun))⟩, fun k e => (hR0 k (h.blt (by rw [e]; nofun))).trans e⟩⟩
  · rcases hR k with e | e
    · exact .inl e
    · exact .inr (.inl e)
  · have := own_of_block (w' := w1.setCell ⟨q, 2, none⟩ v') hr.own (fun k hk => set_other _ _ (fun e' => by have := hr.role k hk; rw [e', hqR] at this; cases this))
    simpa using this

theorem Lay.pushW {w w1 : World} (h : Lay base w R g pm wm T W E nm pf N) {q t : Nat} (hq : R q = .proc) {s : ByteArray} {tv wv v' : Value} {noted : Bool} {o : Obj}
    (hb : w.heap[q]? = some (.cells #[.string (nm q), .string s, tv, wv, .bool noted, .int .i64 0, .int .i64 0, .int .i64 0, .int .i64 0] 102 (0, 0))) {n : Nat} (hn : n = (W q).length) (hrow : RowOf base w R (.rowW q) wv n (ptrs (W q)))
    (hown : w1.ownsRow base 68 1 v' (n + 1) (ptrs (W q) ++ [ptr t])) (hgrow : (w.alloc o).grownBy w1 wv.ownBlock) (hat : v'.ownBlock = wv.ownBlock ∨ v'.ownBlock = some (w.alloc o).heap.size) :
    w1.heap[q]? = w.heap[q]? ∧ ∃ R', Lay base (w1.setCell ⟨q, 3, none⟩ v') R' g pm wm T (updF W q (W q ++ [t])) E nm pf (N + 1) ∧ Fr R R' w (w1.setCell ⟨q, 3, none⟩ v') := by
  subst hn
  obtain ⟨R', hr, hR, hR0, hfr, hblk, hsz, e1, e2, e3⟩ := role_append h.fresh hrow hown hgrow hat
  have hql := h.blt (p := q) (by rw [hq]; nofun)
  have hq1 := hblk q hql (by rw [hq]; nofun)
  have hqR : R' q = .proc := (hR0 q hql).trans hq
  refine ⟨hq1, R', h.turnW hq (by rw [set_size]; exact hsz) hR hR0 (fun k hk => hfr k (by rw [set_size] at hk; exact hk)) (fun k hk _ hkq hkr => (set_other _ _ hkq).trans (hblk k hk hkr)) ⟨s, tv, wv, noted, hb, set_blk (i := 3) (hq1.trans hb) v'⟩ ⟨?_, hr.role⟩ (by have := (h.lt q).2; simp; omega) (by omega), ⟨e1, e2, e3, by rw [set_size]; exact hsz, fun k hk e => ⟨(hR0 k hk).trans e, (set_other _ _ (fun e' => by rw [e', hq] at e; cases e)).trans (hblk k hk (by rw [e]; nofun))⟩, fun k e => (hR0 k (h.blt (by rw [e]; nofun))).trans e⟩⟩
  have := own_of_block (w' := w1.setCell ⟨q, 3, none⟩ v') hr.own (fun k hk => set_other _ _ (fun e' => by have := hr.role k hk; rw [e', hqR] at this; cases this))
  simpa using this

/-- The rows of q's targets serve other ends from now on. -/
def dropT (R : Nat → Role) (q k : Nat) : Role :=
  match R k with
  | .rowT p => if p = q then .other else .rowT p
  | r => r
theorem dropT_same {R : Nat → Role} {q k : Nat} (h : R k = .rowT q) : dropT R q k = .other := by simp [dropT, h]
theorem dropT_other {R : Nat → Role} {q k : Nat} (h : R k ≠ .rowT q) : dropT R q k = R k := by
  unfold dropT
  cases hk : R k with
  | rowT p =>
    have : p ≠ q := fun e => h (by rw [hk, e])
    simp [this]
  | _ => rfl

theorem Lay.nilT {w : World} (h : Lay base w R g pm wm T W E nm pf N) {q : Nat} (hq : R q = .proc) : Lay base (w.setCell ⟨q, 2, none⟩ (.slice none 0 0)) (dropT R q) g pm wm (updF T q []) W E nm pf N ∧ Fr R (dropT R q) w (w.setCell ⟨q, 2, none⟩ (.slice none 0 0)) := by
  obtain ⟨s, tv, wv, noted, hb, hs, hT, hW⟩ := (h.pr q hq).ex
  refine ⟨h.turnT hq (by rw [set_size]; exact Nat.le_refl _) (fun k => ?_) (fun k _ hk => dropT_other hk) (fun k hk => ?_) (fun k _ _ hk _ => set_other _ _ hk) ⟨s, tv, wv, noted, hb, set_blk (i := 2) hb _⟩ ⟨World.ownsRow_nil _ _ _ _, nofun⟩ (by simp) (Nat.le_refl _), ⟨rfl, rfl, rfl, by rw [set_size]; exact Nat.le_refl _, fun k _ e => ⟨(dropT_other (by rw [e]; nofun)).trans e, set_other _ _ (fun e' => by rw [e', hq] at e; cases e)⟩, fun k e => (dropT_other (by rw [e]; nofun)).trans e⟩⟩
  · by_cases hk : ∃ p, R k = .rowT p ∧ p = q
    · obtain ⟨p, e, rfl⟩ := hk
      exact .inr (.inr ⟨dropT_same e, e⟩)
    · exact .inl (dropT_other (fun e => hk ⟨q, e, rfl⟩))
  · rw [set_size] at hk
    have := h.fresh k hk
    rw [dropT_other (by rw [this]; nofun)]; exact this


theorem ptrs_get (l : List Nat) (k : Nat) (hk : k < l.length) : (ptrs l)[k]? = some (ptr (l.getD k 0)) := by
  simp [List.getD, hk]
theorem drop_cons (l : List Nat) (k : Nat) (hk : k < l.length) : l.drop k = l.getD k 0 :: l.drop (k + 1) := by
  rw [List.drop_eq_getElem_cons hk]; simp [List.getD, hk]

theorem updF_updF {α : Type} (f : Nat → α) (p : Nat) (u v : α) : updF (updF f p u) p v = updF f p v := by
  funext k; unfold updF; split <;> rfl

theorem own_at {w : World} {base : Nat} {e : TypeId} {a : Option Addr} {n c : Nat} {xs : List Value} (h : w.ownsRow base e 1 (.slice a n c) n xs) (hn : 0 < n) : ∃ b, a = some ⟨b, 0, none⟩ := by
  rcases h.2 with ⟨_, e⟩ | ⟨b, cap, cur, e, _⟩
  · omega
  · cases e; exact ⟨b, rfl⟩

set_option maxHeartbeats 4000000 in
theorem setTargets_is (w : World) (h : Lay base w R g pm wm T W E nm pf N) (hI : Inv T W E) (hN : N ≤ 50000000) {q : Nat} (hq : R q = .proc) (hTq : (T q).length ≤ 1024) (a0 : Option Addr) (n0 c0 : Nat) (ts : List Nat) (hts : ts.length = n0) (hn0 : n0 ≤ 1024) (hnd : ts.Nodup) (hp : ∀ t ∈ ts, R t = .proc)
    (hrow : 0 < n0 → ∃ b off, a0 = some ⟨b, off, none⟩ ∧ R b = .other ∧ ∀ i, i < n0 → w.cell? ⟨b, off + i, none⟩ = some (ptr (ts.getD i 0))) :
    Calls Ybaf.prog 60 #[ptr g, ptr q, .slice a0 n0 c0] w fun e w' => e = .returned (.tuple #[]) ∧ ∃ R' W' E', Lay base w' R' g pm wm (updF T q ts) W' E' nm pf (N + 5200) ∧ Inv (updF T q ts) W' E' ∧ Fr R R' w w' := by
  go_enter Ybaf.func60, Ybaf.ntmps60
  go_wp2_with fail
  refine (record_is w h (by omega)).mono ?_
  rintro e w1 ⟨rfl, R1, h1, F1⟩
  have hq1 := F1.prc q hq
  obtain ⟨s, tv, wv, noted, hb, hs, hT, hW⟩ := (h1.pr q hq1).ex
  obtain ⟨m, hm⟩ : ∃ m, m = (T q).length := ⟨_, rfl⟩
  rw [← hm] at hT hTq
  have HM := hide hm
  clear hm
  obtain ⟨aT, cT, rfl⟩ := own_slice hT.own
  have q2 := cell_of_blk hb (i := 2) rfl
  have H1 := hide (And.intro h1 F1)
  go_wp2
  go_loopw [22] (fun i wr => ∃ k W' E', k ≤ m ∧ i = .int .i64 (k : Nat) ∧ Lay base wr R1 g pm wm T W' E' nm pf (N + 2 + k) ∧ Inv (updF T q ((T q).drop k)) W' E' ∧ Fr R1 R1 w1 wr ∧ Kt R1 w1 wr) (fun i _ => m - (intOf i).toNat)
  case atStart => exact ⟨0, W, E, Nat.zero_le _, rfl, h1, by rw [List.drop_zero, updF_self]; exact hI, Fr.refl _ _, fun _ _ _ => rfl⟩
  case round =>
    obtain ⟨k, W', E', hk, rfl, hL, hIk, hF, hK⟩ := hrel
    by_cases hkm : k < m
    · obtain ⟨bT, rfl⟩ := own_at hT.own (by omega)
      obtain ⟨t, ht⟩ : ∃ t, t = (T q).getD k 0 := ⟨_, rfl⟩
      have hd := drop_cons (T q) k (by have := unhide HM; omega)
      rw [← ht] at hd
      obtain ⟨n, l, last, hE, hlen, hn, hlast, hlm, hI'⟩ := hIk.unwait (q := q) (t := t) (rest := (T q).drop (k + 1)) (by rw [updF_same]; exact hd)
      rw [updF_updF] at hI'
      have pOf : ∀ {x : Nat}, ¬ (T x = [] ∧ W' x = []) → R1 x = .proc := fun {x} hx => Classical.byContradiction fun e => hx (hL.out x e)
      have ht1 : R1 t = .proc := pOf (fun e => by rw [e.2] at hlen; simp at hlen)
      have hl1 : R1 last = .proc := by
        by_cases e : last = q
        · rw [e]; exact hq1
        · have := (hIk.b last t).2 hlm
          rw [updF_other _ _ e] at this
          exact pOf (fun e' => by rw [e'.1] at this; simp at this)
      have hown := own_of_block (w' := wr) hT.own (fun k' hk' => hK k' q (hT.role k' hk'))
      have hc : wr.cell? ⟨bT, k, none⟩ = some (ptr t) := by rw [hown.cellAt k (by omega), ptrs_get _ _ (by have := unhide HM; omega), ht]
      have HI := hide (And.intro hI' (And.intro hF hK))
      clear hI' hF hK hown hd ht hIk
      go_wp2_with (go_at_call 68; refine (unwait_is wr hL (by omega) hq1 ht1 hl1 hE hlen hn hlast).mono ?_; rintro e w2 ⟨rfl, hL2, hF2, hK2⟩)
      go_roundw
      case rel => exact ⟨k + 1, _, _, by omega, by go_num, hL2, (unhide HI).1, (unhide HI).2.1.trans hF2, fun x p e => (hK2 x p e).trans ((unhide HI).2.2 x p e)⟩
      case measure => simp [intOf]; omega
    · have hkm' : k = m := by omega
      subst hkm'
      rw [unhide HM, List.drop_length] at hIk
      obtain ⟨h2, F2⟩ := hL.nilT hq1
      obtain ⟨s', tv', wv', noted', hb', _, _, _⟩ := (hL.pr q hq1).ex
      have qc := cell_of_blk hb' (i := 2) rfl
      have qf := frozen_of_blk hb' 2
      have hown := own_of_block (w' := wr) hT.own (fun k' hk' => hK k' q (hT.role k' hk'))
      have hown2 : (wr.setCell ⟨q, 2, none⟩ (.slice none 0 0)).ownsRow base 68 1 (.slice aT k cT) k (ptrs (T q)) := own_of_block hown (fun k' hk' => set_other _ _ (fun e => by have := hT.role k' hk'; rw [e, hq1] at this; cases this))
      have F12 : Fr R (dropT R1 q) w (wr.setCell ⟨q, 2, none⟩ (.slice none 0 0)) := F1.trans (hF.trans F2)
      have hbefore : ∀ b, aT = some ⟨b, 0, none⟩ → dropT R1 q b = .other := fun b hb => dropT_same (hT.role b (by rw [hb]; rfl))
      have H2 := hide (And.intro h2 (And.intro F12 (And.intro hIk hown2)))
      clear h2 F12 hIk hown2 hown hF hK hL F2 hb' hb q2 hT hW h1 F1 H1
      go_wp2
      generalize wr.setCell ⟨q, 2, none⟩ (.slice none 0 0) = w2 at H2 ⊢
      clear qc qf
      obtain ⟨h2, F2, hI2, hown2⟩ := unhide H2
      generalize dropT R1 q = R2 at h2 F2 hbefore H2
      have hq2 := F2.prc q hq
      go_loopw [36] (fun i wr => ∃ j R3 W'' E'', j ≤ n0 ∧ i = .int .i64 (j : Nat) ∧ Lay base wr R3 g pm wm (updF T q (ts.take j)) W'' E'' nm pf (N + 2 + k + 3 * j) ∧ Inv (updF T q (ts.take j)) W'' E'' ∧ Fr R2 R3 w2 wr) (fun i _ => n0 - (intOf i).toNat)
      case atStart => exact ⟨0, R2, W', E', Nat.zero_le _, rfl, h2, hI2, Fr.refl _ _⟩
      case round =>
        obtain ⟨j, R3, W3, E3, hj, rfl, hL, hIj, hF⟩ := hrel
        by_cases hjn : j < n0
        · obtain ⟨b, off, rfl, hbo, hcell⟩ := hrow (by omega)
          have hcj := hcell j hjn
          obtain ⟨t, ht⟩ : ∃ t, t = ts.getD j 0 := ⟨_, rfl⟩
          rw [← ht] at hcj
          have htm : t ∈ ts := by rw [ht]; simp [List.getD, hts, hjn]
          have hc : wr.cell? ⟨b, off + j, none⟩ = some (ptr t) := by
            have e := cell_lt hcj
            obtain ⟨o1, o2⟩ := F2.oth b e hbo
            obtain ⟨o3, o4⟩ := hF.oth b (Nat.lt_of_lt_of_le e F2.size) o1
            rw [World.cell?_of_block (w := w) (o4.trans o2)]; exact hcj
          have htp : R3 t = .proc := hF.prc t (F2.prc t (hp t htm))
          have hqp : R3 q = .proc := hF.prc q hq2
          have htn : t ∉ updF T q (ts.take j) q := by
            rw [updF_same, ht]
            intro e
            obtain ⟨i, hi⟩ := List.mem_iff_getElem?.1 e
            rw [List.getElem?_take] at hi
            by_cases hij : i < j
            · simp only [hij, if_true] at hi
              have := List.pairwise_iff_getElem.1 hnd i j (by omega) (by omega) hij
              simp [List.getD, hts, hjn] at hi
              exact this (List.getElem?_eq_some_iff.1 hi).2
            · simp [hij] at hi
          have hIn := hIj.add htn
          have hL0 : Lay base wr.drew R3 g pm wm (updF T q (ts.take j)) W3 E3 nm pf (N + 2 + k + 3 * j) := hL.frame (w' := wr.drew) (Nat.le_refl _) (fun _ _ _ => rfl) (Nat.le_refl _)
          obtain ⟨w3, hrun, hE3, ht3⟩ := hL0.wm_is.put (fun p hp => hL0.cells hp) (x := (q, t)) hqp htp (W3 t).length
          have hL3 := hL0.turnWaits ht3 hE3 (by omega)
          obtain ⟨c, lc, li, cv, iv, xc, xi, hg, hc', hlc, hli, hC, hI', hone⟩ := hL.gr.ex
          obtain ⟨s1, tv1, wv1, noted1, hb1, hs1, hT1, hW1⟩ := (hL.pr t htp).ex
          obtain ⟨a3, c3, rfl⟩ := own_slice hW1.own
          have g1 := cell_of_blk hg (i := 1) rfl
          have t3 := cell_of_blk hb1 (i := 3) rfl
          have H3 := hide (And.intro hL3 (And.intro ht3 (And.intro hIn hF)))
          have HL := hide hL
          have HT := hide ht
          clear ht hcell hcj htm htn hL3 hIn hF hL hL0 hE3 ht3 hIj hC hI' hone hT1 hW1 hg hb1
          go_wp2
          go_region
          obtain ⟨hL3, ht3, hIn, hF⟩ := unhide H3
          obtain ⟨i0, hi, hz0, hz1, hz2⟩ := info_parts Ybaf.info68
          obtain ⟨s4, tv4, wv4, noted4, hb4, hs4, hT4, hW4⟩ := (hL3.pr q hqp).ex
          have hl4 := (hL3.lt q).1
          obtain ⟨x4, hx4⟩ : ∃ x, x = (updF T q (ts.take j) q).length := ⟨_, rfl⟩
          rw [← hx4] at hl4 hT4
          obtain ⟨a4, c4, rfl⟩ := own_slice hT4.own
          have hbs := hL3.hbase
          have hl3 : q < w3.heap.size := hL3.blt (by rw [hqp]; nofun)
          have q2 := cell_of_blk hb4 (i := 2) rfl
          have HX := hide hx4
          clear hL3 ht3 hIn hF hrun g1 t3 hc hx4
          go_wp2_with (at_builtin; refine wpList_append_own_at _ rfl _ _ 76 rfl base 68 i0 (.pointer none) 1 8 Ybaf.underlying76 hi hz0 hz1 hz2 rfl (by decide) _ _ _ rfl (hT4.own.alloc _) ⟨w3.heap.size, 0, none⟩ 1 1 [ptr t] rfl rfl (cell_one_new _ _ _) (by simp [Value.oneCell']) (by unfold maxLen; omega) (by omega) (by simp; omega) ?_)
          intro v' w4 hown4 hgrow4 _ hat4
          obtain ⟨hL3, ht3, hIn, hF⟩ := unhide H3
          obtain ⟨e4, R4, hL4, hF4⟩ := hL3.pushT hqp hb4 (unhide HX) hT4 hown4 hgrow4 (by simpa using hat4)
          have hF03' : Fr R3 R3 wr.drew w3 := ⟨ht3.grown.os, ht3.grown.tape, ht3.grown.output, turned_size ht3, fun k' _ e => ⟨e, turned_block ht3 (fun e' => by rw [e', (unhide HL).rw] at e; cases e)⟩, fun _ e => e⟩
          have hF03 : Fr R3 R3 wr w3 := ⟨hF03'.os, hF03'.tape, hF03'.output, hF03'.size, hF03'.oth, hF03'.prc⟩
          have hF4' := hF.trans (hF03.trans hF4)
          clear hF03'
          have htp4 := hF4.prc t htp
          obtain ⟨a5, c5, rfl⟩ := own_slice hown4
          have q4 := cell_of_blk (e4.trans hb4) (i := 2) rfl
          have q4f := frozen_of_blk (e4.trans hb4) 2
          have H4 := hide (And.intro hL4 (And.intro hF4' hIn))
          obtain ⟨s6, tv6, wv6, noted6, hb6, hs6, hT6, hW6⟩ := (hL4.pr t htp4).ex
          have hl6 := (hL4.lt t).2
          obtain ⟨x6, hx6⟩ : ∃ x, x = (W3 t).length := ⟨_, rfl⟩
          rw [← hx6] at hl6 hW6
          obtain ⟨a6, c6, rfl⟩ := own_slice hW6.own
          have hbs5 := hL4.hbase
          rw [set_size] at hbs5
          have t3 := cell_of_blk hb6 (i := 3) rfl
          have HX6 := hide hx6
          have HB6 := hide hb6
          clear hb6 hx6
          clear hL4 hF4' hIn hF4 hF03 hF hown4 hgrow4 hat4 hL3 ht3 e4 hb4 hT4 hW4 HX H3 HL q2 hl4 hbs hl3
          go_wp2_with (at_builtin; refine wpList_append_own_at _ rfl _ _ 76 rfl base 68 i0 (.pointer none) 1 8 Ybaf.underlying76 hi hz0 hz1 hz2 rfl (by decide) _ _ _ rfl (hW6.own.alloc _) ⟨w4.heap.size, 0, none⟩ 1 1 [ptr q] rfl rfl (by have := cell_one_new (w4.setCell ⟨q, 2, none⟩ (.slice a5 (x4 + 1) c5)) (ptr q) 68; rw [set_size] at this; exact this) (by simp [Value.oneCell']) (by unfold maxLen; omega) (by omega) (by simp; omega) ?_)
          intro v' w6 hown6 hgrow6 _ hat6
          replace hat6 : v'.ownBlock = (Value.slice a6 x6 c6).ownBlock ∨ v'.ownBlock = some ((w4.setCell ⟨q, 2, none⟩ (.slice a5 (x4 + 1) c5)).alloc (.cells #[ptr q] 68)).heap.size := by rw [World.size_alloc, set_size]; exact hat6
          have hb6 := unhide HB6
          obtain ⟨hL5, hF5, hIn⟩ := unhide H4
          obtain ⟨e6, R6, hL6, hF6⟩ := hL5.pushW htp4 hb6 (unhide HX6) hW6 hown6 hgrow6 hat6
          obtain ⟨a7, c7, rfl⟩ := own_slice hown6
          have q6 := cell_of_blk (e6.trans hb6) (i := 3) rfl
          have q6f := frozen_of_blk (e6.trans hb6) 3
          have htk : ts.take j ++ [t] = ts.take (j + 1) := by
            rw [unhide HT, List.take_succ_eq_append_getElem (by omega)]; simp [List.getD, hts, hjn]
          rw [updF_updF, updF_same, htk] at hL6 hIn
          have H6 := hide (And.intro hL6 (And.intro (hF5.trans hF6) hIn))
          clear hL6 hIn hF6 hF5 hL5 hown6 hgrow6 hat6 e6 hb6 HB6 hT6 hW6 HX6 H4 hl6 hbs5 t3 htk q4 q4f
          go_wp2
          go_roundw
          case rel => exact ⟨j + 1, R6, _, _, by omega, by go_num, (unhide H6).1, (unhide H6).2.2, (unhide H6).2.1⟩
          case measure => simp [intOf]; omega
        · have hjn' : j = n0 := by omega
          have hT' : ts.take j = ts := List.take_of_length_le (by omega)
          rw [hT'] at hL hIj
          have hF0 := F2.trans hF
          have HE := hide (And.intro hL (And.intro hIj (And.intro hF0 (And.intro hF hjn'))))
          clear hL hIj hF0 hF hT' hjn'
          rename World => wz
          go_wp2
          go_loopw [75] (fun i wx => ∃ x R5, x ≤ k ∧ i = .int .i64 (x : Nat) ∧ Lay base wx R5 g pm wm (updF T q ts) W3 E3 nm pf (N + 2 + k + 3 * j + x) ∧ Fr R3 R5 wz wx) (fun i _ => k - (intOf i).toNat)
          case atStart => exact ⟨0, R3, Nat.zero_le _, rfl, (unhide HE).1, Fr.refl _ _⟩
          case round =>
            obtain ⟨x, R5, hx, rfl, hL5, hF5⟩ := hrel
            obtain ⟨_, hIz, hF0, hFz, -⟩ := unhide HE
            by_cases hxk : x < k
            · obtain ⟨bT, rfl⟩ := own_at hown2 (by omega)
              obtain ⟨t, ht⟩ : ∃ t, t = (T q).getD x 0 := ⟨_, rfl⟩
              have htm : t ∈ T q := by
                have := unhide HM
                rw [ht]; simp [List.getD, show x < (T q).length by omega]
              have htp : R t = .proc := Classical.byContradiction fun e => by
                have := (hI.b q t).1 htm
                rw [(h.out t e).2] at this
                simp at this
              have htp5 := hF5.prc t (hF0.prc t htp)
              have hc : wr.cell? ⟨bT, x, none⟩ = some (ptr t) := by
                have e := (hown2.lt bT rfl).2
                obtain ⟨o1, o2⟩ := hFz.oth bT e (hbefore bT rfl)
                obtain ⟨o3, o4⟩ := hF5.oth bT (Nat.lt_of_lt_of_le e hFz.size) o1
                rw [World.cell?_of_block (w := w2) (o4.trans o2), hown2.cellAt x (by omega), ptrs_get _ _ (by have := unhide HM; omega), ht]
              have HF5 := hide hF5
              clear ht htm hF5 hIz hF0 hFz
              go_wp2_with (go_at_call 69; refine (noteIdle_is wr hL5 (by omega) htp5).mono ?_; rintro e w6 ⟨rfl, R6, hL6, hF6⟩)
              go_roundw
              case rel => first | exact ⟨x + 1, R6, by omega, by go_num, hL6, (unhide HF5).trans hF6⟩ | ((repeat apply Exists.intro); exact ⟨⟨x + 1, R6, by omega, by go_num, hL6, (unhide HF5).trans hF6⟩, rfl⟩)
              case measure => simp [intOf]; omega
            · have hq5 := hF5.prc q (hF0.prc q hq)
              have HF5 := hide (And.intro hF5 (And.intro hF0 hIz))
              clear hF5 hF0 hIz hFz
              go_wp2_with (go_at_call 69; refine (noteIdle_is wr hL5 (by omega) hq5).mono ?_; rintro e w6 ⟨rfl, R6, hL6, hF6⟩)
              go_end0
              obtain ⟨hF5, hF0, hIz⟩ := unhide HF5
              exact ⟨rfl, R6, W3, E3, hL6.frame (Nat.le_refl _) (fun _ _ _ => rfl) (by omega), hIz, hF0.trans (hF5.trans hF6)⟩

end

end Go.Proofs.YbulkahtqFmt
