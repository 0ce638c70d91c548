/-
  THE WALKS of waitgraph's small functions.
-/
import Derived.Test.YbulkahtqFmtLay
import Derived.RegionTactic
import Derived.ChangeAlike
import Derived.Deep.QuietTactic
import Derived.BigQuiet
import Derived.BigRegion
import Derived.Laws.OwnMore
import Derived.Laws.CopyRow
namespace Go.Proofs.YbulkahtqFmt
open Go.RowKit Go.WideMaps Go.Maps Kit

set_option maxHeartbeats 400000 in
theorem idle_any (p n m : Nat) (a a' : Option Addr) (c c' : Nat) (w : World) (h2 : w.cell? ⟨p, 2, none⟩ = some (.slice a n c)) (h3 : w.cell? ⟨p, 3, none⟩ = some (.slice a' m c')) :
    Calls Ybaf.prog 73 #[ptr p] w fun e w' => e = .returned (.bool (decide (n = 0 ∧ m = 0))) ∧ w' = w := by
  by_cases hn : n = 0
  · subst hn
    by_cases hm : m = 0
    · subst hm
      go_enter Ybaf.func73, Ybaf.ntmps73
      go_wp2
      go_ret
      exact ⟨rfl, rfl⟩
    · go_enter Ybaf.func73, Ybaf.ntmps73
      go_wp2
      go_ret
      exact ⟨by simp [hm], rfl⟩
  · go_enter Ybaf.func73, Ybaf.ntmps73
    go_wp2
    go_ret
    exact ⟨by simp [hn], rfl⟩

theorem set_blk {w : World} {b i : Nat} {c : Array Value} {t : TypeId} (h : w.heap[b]? = some (.cells c t (0, 0))) (v : Value) : (w.setCell ⟨b, i, none⟩ v).heap[b]? = some (.cells (c.setIfInBounds i v) t (0, 0)) := heap_setCell_same w b i c t v h
theorem set_other {w : World} {b k : Nat} (i : Nat) (v : Value) (h : k ≠ b) : (w.setCell ⟨b, i, none⟩ v).heap[k]? = w.heap[k]? := Below.heap_setCell _ _ _ _ h
theorem set_size (w : World) (a : Addr) (v : Value) : (w.setCell a v).heap.size = w.heap.size := by simp [World.setCell]

section
variable {base : Nat} {R : Nat → Role} {g pm wm : Nat} {T W : Nat → List Nat} {E : Nat × Nat → Option Nat} {nm : Nat → ByteArray} {pf : Lit → Option Value} {N : Nat}

theorem updF_self {α : Type} (f : Nat → α) (p : Nat) : updF f p (f p) = f := by
  funext k; by_cases h : k = p
  · subst h; exact updF_same _ _ _
  · exact updF_other _ _ h

/-- A process's block turned, its rows not. -/
theorem Lay.setProc {w w' : World} (h : Lay base w R g pm wm T W E nm pf N) {p : Nat} (hp : R p = .proc) (hz : w'.heap.size = w.heap.size) (ho : ∀ k, k ≠ p → w'.heap[k]? = w.heap[k]?)
    (hb : ∀ s tv wv noted, w.heap[p]? = some (.cells #[.string (nm p), .string s, tv, wv, .bool noted, .int .i64 0, .int .i64 0, .int .i64 0, .int .i64 0] 102 (0, 0)) → ∃ s' noted', w'.heap[p]? = some (.cells #[.string (nm p), .string s', tv, wv, .bool noted', .int .i64 0, .int .i64 0, .int .i64 0, .int .i64 0] 102 (0, 0)) ∧ (s' = s ∨ s' = nm p)) :
    Lay base w' R g pm wm T W E nm pf N := by
  obtain ⟨s, tv, wv, noted, hbk, hs, hT, hW⟩ := (h.pr p hp).ex
  obtain ⟨s', noted', hb', hs'⟩ := hb _ _ _ _ hbk
  have key : Lay base w' R g pm wm (updF T p (T p)) (updF W p (W p)) E nm pf N := by
    refine h.turnProc hp (by rw [hz]; exact Nat.le_refl _) (fun _ => Iff.rfl) (fun k hk => h.fresh k (by rw [hz] at hk; exact hk)) (fun k _ _ hk _ _ => ⟨ho k hk, rfl⟩) ⟨s', _, _, noted', hb', ?_, hT.frame (fun k _ e => ⟨ho k (fun e' => ?_), e⟩), hW.frame (fun k _ e => ⟨ho k (fun e' => ?_), e⟩)⟩ (h.lt p).1 (h.lt p).2 (Nat.le_refl _)
    · rcases hs' with e | e
      · rw [e]; exact hs
      · exact .inr e
    · rw [e', hp] at e; cases e
    · rw [e', hp] at e; cases e
  rw [updF_self, updF_self] at key
  exact key

theorem Lay.setNoted {w : World} (h : Lay base w R g pm wm T W E nm pf N) {p : Nat} (hp : R p = .proc) : Lay base (w.setCell ⟨p, 4, none⟩ (.bool true)) R g pm wm T W E nm pf N :=
  h.setProc hp (set_size _ _ _) (fun _ hk => set_other _ _ hk) (fun s _ _ _ hb => ⟨s, true, set_blk (i := 4) hb _, .inl rfl⟩)
theorem Lay.setSite {w : World} (h : Lay base w R g pm wm T W E nm pf N) {p : Nat} (hp : R p = .proc) : Lay base (w.setCell ⟨p, 1, none⟩ (.string (nm p))) R g pm wm T W E nm pf N :=
  h.setProc hp (set_size _ _ _) (fun _ hk => set_other _ _ hk) (fun _ _ _ n hb => ⟨nm p, n, set_blk (i := 1) hb _, .inr rfl⟩)

/-- What serves the graph is turned, by its one cell and the rows of the role r alone. -/
theorem Lay.pushGr {w w1 w' : World} (h : Lay base w R g pm wm T W E nm pf N) {r : Role} (hr : r = .changed ∨ r = .idle) {v v' x : Value} {n : Nat} {xs : List Value} {o : Obj} (hv : RowOf base w R r v n xs)
    (hown : w1.ownsRow base 68 1 v' (n + 1) (xs ++ [x])) (hgrow : (w.alloc o).grownBy w1 v.ownBlock) (hat : v'.ownBlock = v.ownBlock ∨ v'.ownBlock = some (w.alloc o).heap.size)
    (hz : w'.heap.size = w1.heap.size) (hos : w'.os = w1.os ∧ w'.tape = w1.tape ∧ w'.output = w1.output) (ho : ∀ k, k ≠ g → w'.heap[k]? = w1.heap[k]?)
    (hg : w1.heap[g]? = w.heap[g]? → ∀ R', RowOf base w' R' r v' (n + 1) (xs ++ [x]) → (∀ k, k < w.heap.size → R k ≠ r → k ≠ g → w'.heap[k]? = w.heap[k]? ∧ R' k = R k) → GrIs base w' R' g pm wm (N + 1)) :
    ∃ R', Lay base w' R' g pm wm T W E nm pf (N + 1) ∧ Fr R R' w w' := by
  obtain ⟨R', hrow, hR, hR0, hfr, hblk, hsz, e1, e2, e3⟩ := role_append h.fresh hv hown hgrow hat
  have hrg : R g ≠ r := by rw [h.rg]; rcases hr with rfl | rfl <;> nofun
  have hgl := h.blt (p := g) (by rw [h.rg]; nofun)
  have hgg : R' g = .graph := (hR0 g hgl).trans h.rg
  have hrow' : RowOf base w' R' r v' (n + 1) (xs ++ [x]) := hrow.frame (fun k _ e => ⟨ho k (fun e' => by rw [e', hgg] at e; rcases hr with rfl | rfl <;> cases e), e⟩)
  have hold : ∀ k, k < w.heap.size → R k ≠ r → k ≠ g → w'.heap[k]? = w.heap[k]? ∧ R' k = R k := fun k hk h1 h2 => ⟨(ho k h2).trans (hblk k hk h1), hR0 k hk⟩
  have hpr : ∀ k, R' k = .proc ↔ R k = .proc := fun k => by
    rcases hR k with e | ⟨e, e'⟩
    · rw [e]
    · rw [e, e']; rcases hr with rfl | rfl <;> exact ⟨nofun, nofun⟩
  refine ⟨R', h.turnGr (by omega) hpr (fun k hk => hfr k (by omega)) hgg (fun k hk _ h2 h3 h4 => hold k hk (by rcases hr with rfl | rfl; exact h3; exact h4) h2) (hg (hblk g hgl hrg) R' hrow' hold) (by omega),
    ⟨hos.1.trans e1, hos.2.1.trans e2, hos.2.2.trans e3, by omega, fun k hk e => ?_, fun k e => (hpr k).2 e⟩⟩
  have hkg : k ≠ g := fun e' => by rw [e', h.rg] at e; cases e
  have hkr : R k ≠ r := fun e' => by rw [e] at e'; subst e'; rcases hr with hr | hr <;> cases hr
  exact ⟨(hold k hk hkr hkg).2.trans e, (hold k hk hkr hkg).1⟩

set_option maxHeartbeats 1000000 in
theorem noteIdle_is (w : World) (h : Lay base w R g pm wm T W E nm pf N) (hN : N ≤ 100000000) {p : Nat} (hp : R p = .proc) :
    Calls Ybaf.prog 69 #[ptr g, ptr p] w fun e w' => e = .returned (.tuple #[]) ∧ ∃ R', Lay base w' R' g pm wm T W E nm pf (N + 1) ∧ Fr R R' w w' := by
  obtain ⟨s, tv, wv, noted, hb, hs, hT, hW⟩ := (h.pr p hp).ex
  obtain ⟨a2, c2, rfl⟩ := own_slice hT.own
  obtain ⟨a3, c3, rfl⟩ := own_slice hW.own
  obtain ⟨c, lc, li, cv, iv, xc, xi, hg, hc, hlc, hli, hC, hI, hone⟩ := h.gr.ex
  have p2 := cell_of_blk hb (i := 2) rfl
  have p3 := cell_of_blk hb (i := 3) rfl
  have p4 := cell_of_blk hb (i := 4) rfl
  have f4 := frozen_of_blk hb 4
  have g7 := cell_of_blk hg (i := 7) rfl
  have hgp : g ≠ p := fun e => by have := h.rg; rw [e, hp] at this; cases this
  by_cases hid : (T p).length = 0 ∧ (W p).length = 0
  · cases noted with
    | true =>
      go_enter Ybaf.func69, Ybaf.ntmps69
      go_wp2_with (go_at_call 73; refine (idle_any _ _ _ _ _ _ _ _ p2 p3).mono ?_; rintro e w' ⟨rfl, hw⟩; rw [hw]; clear hw w'; simp only [hid, and_self, decide_true])
      go_end0
      exact ⟨rfl, R, h.frame (Nat.le_refl _) (fun _ _ _ => rfl) (by omega), Fr.refl _ _⟩
    | false =>
      obtain ⟨i0, hi, hz0, hz1, hz2⟩ := info_parts Ybaf.info68
      obtain ⟨a7, c7, rfl⟩ := own_slice hI.own
      have h1 := h.setNoted hp
      have hI1 : RowOf base (w.setCell ⟨p, 4, none⟩ (.bool true)) R .idle (.slice a7 li c7) li xi := hI.frame (fun k _ e => ⟨set_other _ _ (fun e' => by rw [e', hp] at e; cases e), e⟩)
      have hC1 : RowOf base (w.setCell ⟨p, 4, none⟩ (.bool true)) R .changed cv lc xc := hC.frame (fun k _ e => ⟨set_other _ _ (fun e' => by rw [e', hp] at e; cases e), e⟩)
      have g1 : (w.setCell ⟨p, 4, none⟩ (.bool true)).heap[g]? = _ := (set_other 4 (.bool true) hgp).trans hg
      have g17 := cell_of_blk g1 (i := 7) rfl
      have G1 := hide g1
      clear g1 hgp g7
      have hbs := h.hbase
      have HN := hide hN
      clear hN
      go_enter Ybaf.func69, Ybaf.ntmps69
      go_wp2_with (first
        | (go_at_call 73; refine (idle_any _ _ _ _ _ _ _ _ p2 p3).mono ?_; rintro e w' ⟨rfl, hw⟩; rw [hw]; clear hw w'; simp only [hid, and_self, decide_true])
        | (at_builtin; (refine wpList_append_own_at _ rfl _ _ 76 rfl base 68 i0 (.pointer none) 1 8 Ybaf.underlying76 hi hz0 hz1 hz2 rfl (by decide) _ _ _ rfl (hI1.own.alloc _) ⟨w.heap.size, 0, none⟩ 1 1 [ptr p] rfl rfl (by have := cell_one_new (w.setCell ⟨p, 4, none⟩ (.bool true)) (ptr p) 68; rw [set_size] at this; exact this) (by simp [Value.oneCell']) (by have := unhide HN; unfold maxLen; omega) (by have := unhide HN; omega) (by simp; omega) ?_)))
      intro v' w1 hown' hgrow _ hat
      replace hat : v'.ownBlock = (Value.slice a7 li c7).ownBlock ∨ v'.ownBlock = some ((w.setCell ⟨p, 4, none⟩ (.bool true)).alloc (.cells #[ptr p] 68)).heap.size := by rw [World.size_alloc, set_size]; exact hat
      obtain ⟨a8, c8, rfl⟩ := own_slice hown'
      have hg1 : w1.heap[g]? = some (.cells #[.map (some pm), .map (some wm), .int .i64 0, .int .i64 c, cv, .int .i64 0, .bool false, .slice a7 li c7] 100 (0, 0)) := by
        obtain ⟨_, _, _, _, _, hblk, _⟩ := role_append h1.fresh hI1 hown' hgrow hat
        exact (hblk g (h1.blt (by rw [h.rg]; nofun)) (by rw [h.rg]; nofun)).trans (unhide G1)
      have w17 := cell_of_blk hg1 (i := 7) rfl
      have w1f := frozen_of_blk hg1 7
      go_wp2
      go_end0
      obtain ⟨R', hL, hF⟩ := h1.pushGr (w' := w1.setCell ⟨g, 7, none⟩ (.slice a8 (li + 1) c8)) (.inr rfl) hI1 hown' hgrow hat (set_size _ _ _) ⟨rfl, rfl, rfl⟩ (fun k hk => set_other _ _ hk) (fun _ R' hrow hold =>
        ⟨c, lc, li + 1, cv, _, xc, _, set_blk (i := 7) hg1 _, by omega, by omega, by omega, hC1.frame (fun k hk e => by rw [← e]; exact hold k hk (by rw [e]; nofun) (fun e' => by rw [e', h.rg] at e; cases e)), hrow, hone⟩)
      refine ⟨rfl, R', hL, Fr.trans (w' := w.setCell ⟨p, 4, none⟩ (.bool true)) ⟨rfl, rfl, rfl, by rw [set_size]; exact Nat.le_refl _, fun k _ e => ⟨e, set_other _ _ (fun e' => by rw [e', hp] at e; cases e)⟩, fun _ e => e⟩ hF⟩
  · go_enter Ybaf.func69, Ybaf.ntmps69
    go_wp2_with (go_at_call 73; refine (idle_any _ _ _ _ _ _ _ _ p2 p3).mono ?_; rintro e w' ⟨rfl, hw⟩; rw [hw]; clear hw w'; simp only [hid, decide_false])
    go_end0
    exact ⟨rfl, R, h.frame (Nat.le_refl _) (fun _ _ _ => rfl) (by omega), Fr.refl _ _⟩

theorem keyL_inj {a b : ByteArray} (h : keyL a = keyL b) : a = b := by
  cases a; cases b
  simp only [keyL, Lit.string.injEq] at h
  congr 1
  exact Array.toList_inj.1 h

/-- A process is added. -/
theorem Lay.newProc {w w1 w' : World} (h : Lay base w R g pm wm T W E nm pf N) {x : ByteArray} (hx : x.size ≤ maxLen) (hn : pf (keyL x) = none)
    (hw1 : w1 = w.alloc (.cells #[.string x, .string ByteArray.empty, .slice none 0 0, .slice none 0 0, .bool false, .int .i64 0, .int .i64 0, .int .i64 0, .int .i64 0] 102))
    (ht : w1.mapTurned w' pm) (hm : mapIs w' Ybaf.prog 9 pm (N + 1) (upd pf (keyL x) (some (ptr w.heap.size)))) :
    Lay base w' (updF R w.heap.size .proc) g pm wm T W E (updF nm w.heap.size x) (upd pf (keyL x) (some (ptr w.heap.size))) (N + 1) ∧ Fr R (updF R w.heap.size .proc) w w' := by
  have hz : w1.heap.size = w.heap.size + 1 := by rw [hw1]; simp
  have hz' := turned_size ht
  have hnew : ∀ {k : Nat}, R k ≠ .other → k ≠ w.heap.size := fun hk => Nat.ne_of_lt (h.blt hk)
  have hR : ∀ {k : Nat}, R k ≠ .other → updF R w.heap.size .proc k = R k := fun hk => updF_other _ _ (hnew hk)
  have hb : ∀ k, k < w.heap.size → R k ≠ .procs → w'.heap[k]? = w.heap[k]? := fun k hk hr => by
    have hkp : k ≠ pm := fun e => hr (by rw [e]; exact h.rp)
    rw [turned_block ht hkp, hw1, blk_old _ _ hk]
  have hpm : pm ≠ w.heap.size := hnew (by rw [h.rp]; nofun)
  have hbn : w'.heap[w.heap.size]? = some (.cells #[.string x, .string ByteArray.empty, .slice none 0 0, .slice none 0 0, .bool false, .int .i64 0, .int .i64 0, .int .i64 0, .int .i64 0] 102) := by
    rw [turned_block ht hpm.symm, hw1]; exact blk_new _ _
  have ho := h.out w.heap.size (by rw [h.fresh _ (Nat.le_refl _)]; nofun)
  have hpr : ∀ {k : Nat}, R k = .proc → updF R w.heap.size .proc k = .proc := fun hk => (hR (by rw [hk]; nofun)).trans hk
  refine ⟨⟨by have := h.hbase; omega, (hR (by rw [h.rg]; nofun)).trans h.rg, (hR (by rw [h.rp]; nofun)).trans h.rp, (hR (by rw [h.rw]; nofun)).trans h.rw,
    h.gr.frame (hb g (h.blt (by rw [h.rg]; nofun)) (by rw [h.rg]; nofun)) (by omega) (fun k hk e => ⟨hb k hk (by rcases e with e | e <;> rw [e] <;> nofun), hR (by rcases e with e | e <;> rw [e] <;> nofun)⟩),
    fun q hq => ?_, fun q => ⟨by have := (h.lt q).1; omega, by have := (h.lt q).2; omega⟩, hm,
    (((h.wm_is.of_block (hb wm (h.blt (by rw [h.rw]; nofun)) (by rw [h.rw]; nofun))).mono (by omega)).weaken (fun q hq => hpr hq)), fun q hq => ?_, fun y v hv => ?_, fun q hq => h.out q (fun e => hq (hpr e)), fun k hk => ?_⟩,
    ⟨?_, ?_, ?_, by omega, fun k hk e => ⟨?_, hb k hk (by rw [e]; nofun)⟩, fun k e => hpr e⟩⟩
  · by_cases hqn : q = w.heap.size
    · subst hqn
      rw [updF_same, ho.1, ho.2]
      exact ⟨_, _, _, _, hbn, .inl rfl, ⟨World.ownsRow_nil _ _ _ _, nofun⟩, ⟨World.ownsRow_nil _ _ _ _, nofun⟩⟩
    · rw [updF_other _ _ hqn] at hq ⊢
      exact (h.pr q hq).frame (hb q (h.blt (by rw [hq]; nofun)) (by rw [hq]; nofun)) (fun k hk e => ⟨hb k hk (by rcases e with e | e <;> rw [e] <;> nofun), hR (by rcases e with e | e <;> rw [e] <;> nofun)⟩)
  · by_cases hqn : q = w.heap.size
    · subst hqn
      rw [updF_same]; exact ⟨hx, upd_same _ (keyL_is x) _⟩
    · rw [updF_other _ _ hqn] at hq ⊢
      obtain ⟨e1, e2⟩ := h.pf1 q hq
      exact ⟨e1, by rw [upd_other _ _ (fun e => by rw [e, hn] at e2; cases e2)]; exact e2⟩
  · by_cases hyx : keyL y = keyL x
    · rw [hyx, upd_same _ (keyL_is x)] at hv
      cases hv
      exact ⟨_, rfl, updF_same _ _ _, by rw [updF_same]; exact (keyL_inj hyx).symm⟩
    · rw [upd_other _ _ hyx] at hv
      obtain ⟨q, e1, e2, e3⟩ := h.pf2 y v hv
      exact ⟨q, e1, hpr e2, by rw [updF_other _ _ (hnew (by rw [e2]; nofun))]; exact e3⟩
  · rw [updF_other _ _ (by omega)]; exact h.fresh k (by omega)
  · rw [ht.grown.os, hw1]; rfl
  · rw [ht.grown.tape, hw1]; rfl
  · rw [ht.grown.output, hw1]; rfl
  · rw [updF_other _ _ (Nat.ne_of_lt hk)]; exact e

theorem zero68 (w : World) : (zeroValue 68).run Ybaf.prog w = .ok (.pointer none) w := by kernel_rfl

set_option maxHeartbeats 1000000 in
theorem process_is (w : World) (h : Lay base w R g pm wm T W E nm pf N) (hN : N ≤ 100000000) (x : ByteArray) (hx : x.size ≤ maxLen) :
    Calls Ybaf.prog 64 #[ptr g, .string x] w fun e w' => ∃ p R' nm' pf', e = .returned (ptr p) ∧ R' p = .proc ∧ nm' p = x ∧ (∀ k, R k = .proc → nm' k = nm k) ∧ Lay base w' R' g pm wm T W E nm' pf' (N + 1) ∧ Fr R R' w w' := by
  obtain ⟨c, lc, li, cv, iv, xc, xi, hg, hc, hlc, hli, hC, hI, hone⟩ := h.gr.ex
  have g0 := cell_of_blk hg (i := 0) rfl
  have hpm := h.pm_is
  have HN := hide hN
  clear hN
  cases hpf : pf (keyL x) with
  | some v =>
    obtain ⟨p, rfl, hp, hnm⟩ := h.pf2 x v hpf
    go_enter Ybaf.func64, Ybaf.ntmps64
    go_wp2_with (at_lookup; refine wpList_look_is _ rfl _ _ 97 rfl 9 68 law9 Ybaf.underlying97 (zero68 _) rfl hpm rfl (key_is hx) ?_; rw [hpf]; simp only [Option.getD_some])
    go_ret
    exact ⟨p, R, nm, pf, rfl, hp, hnm, fun _ _ => rfl, h.frame (Nat.le_refl _) (fun _ _ _ => rfl) (by omega), Fr.refl _ _⟩
  | none =>
    have hbr := h.blt (p := pm) (by rw [h.rp]; nofun)
    have hgl := h.blt (p := g) (by rw [h.rg]; nofun)
    have hpm1 := hpm.of_block (blk_old w (.cells #[.string x, .string ByteArray.empty, .slice none 0 0, .slice none 0 0, .bool false, .int .i64 0, .int .i64 0, .int .i64 0, .int .i64 0] 102) hbr)
    go_enter Ybaf.func64, Ybaf.ntmps64
    go_wp2_with (first
      | (at_lookup; refine wpList_look_is _ rfl _ _ 97 rfl 9 68 law9 Ybaf.underlying97 (zero68 _) rfl hpm rfl (key_is hx) ?_; rw [hpf]; simp only [Option.getD_none])
      | (at_mapUpdate; refine wpList_put_is _ rfl _ _ _ 97 rfl 9 68 law9 Ybaf.underlying97 rfl hpm1 (by have := unhide HN; unfold maxLen; omega) rfl rfl (key_is hx) (keyL_is x) ?_; intro w2 hm2 ht2))
    go_ret
    obtain ⟨hL, hF⟩ := h.newProc hx hpf rfl ht2 hm2
    exact ⟨_, _, _, _, rfl, updF_same _ _ _, updF_same _ _ _, fun k hk => updF_other _ _ (Nat.ne_of_lt (h.blt (by rw [hk]; nofun))), hL, hF⟩

theorem own_shorter {w : World} {base : Nat} {e : TypeId} {b n cap : Nat} {xs : List Value} (h : w.ownsRow base e 1 (.slice (some ⟨b, 0, none⟩) n cap) n xs) {m : Nat} (hm : m ≤ n) : w.ownsRow base e 1 (.slice (some ⟨b, 0, none⟩) m cap) m (xs.take m) := by
  rcases h.2 with ⟨h', _⟩ | ⟨g', cap', cur, h', hb, hg, hnc, hcm, hcs, htake⟩
  · simp at h'
  · simp only [Value.slice.injEq, Option.some.injEq, Addr.mk.injEq, and_true, true_and] at h'
    obtain ⟨rfl, rfl⟩ := h'
    have hl := h.1
    refine ⟨by simp; omega, .inr ⟨b, cap, cur, rfl, hb, hg, by omega, hcm, hcs, ?_⟩⟩
    rw [← htake, List.take_take]
    congr 1
    omega

/-- The waiters of t have turned. -/
theorem Lay.turnW {w w' : World} (h : Lay base w R g pm wm T W E nm pf N) {R' : Nat → Role} {t N' : Nat} (ht : R t = .proc) {wv' : Value} {W' : List Nat} (hz : w.heap.size ≤ w'.heap.size) (hR : ∀ k, R' k = R k ∨ (R' k = .rowW t ∧ R k = .other)) (hR0 : ∀ k, k < w.heap.size → R' k = R k) (hfr : ∀ k, w'.heap.size ≤ k → R' k = .other)
    (ho : ∀ k, k < w.heap.size → R k ≠ .other → k ≠ t → R k ≠ .rowW t → w'.heap[k]? = w.heap[k]?)
    (hb : ∃ s tv wv noted, w.heap[t]? = some (.cells #[.string (nm t), .string s, tv, wv, .bool noted, .int .i64 0, .int .i64 0, .int .i64 0, .int .i64 0] 102 (0, 0)) ∧ w'.heap[t]? = some (.cells #[.string (nm t), .string s, tv, wv', .bool noted, .int .i64 0, .int .i64 0, .int .i64 0, .int .i64 0] 102 (0, 0)))
    (hrow : RowOf base w' R' (.rowW t) wv' W'.length (ptrs W')) (hl : W'.length ≤ N') (hN : N ≤ N') : Lay base w' R' g pm wm T (updF W t W') E nm pf N' := by
  obtain ⟨s, tv, wv, noted, hb1, hb2⟩ := hb
  obtain ⟨s', tv', wv2, noted', hb3, hs, hT, hW⟩ := (h.pr t ht).ex
  have e := hb1.symm.trans hb3
  simp at e
  obtain ⟨rfl, rfl, rfl, rfl⟩ := e
  have hpr : ∀ k, R' k = .proc ↔ R k = .proc := fun k => by
    rcases hR k with e | ⟨e, e'⟩
    · rw [e]
    · rw [e, e']; exact ⟨nofun, nofun⟩
  have key : Lay base w' R' g pm wm (updF T t (T t)) (updF W t W') E nm pf N' := by
    refine h.turnProc ht hz hpr hfr (fun k h1 h2 h3 h4 h5 => ⟨ho k h1 h2 h3 h5, hR0 k h1⟩) ⟨s, tv, wv', noted, hb2, hs, hT.frame (fun k hk e => ⟨ho k hk (by rw [e]; nofun) (fun e' => by rw [e', ht] at e; cases e) (by rw [e]; nofun), (hR0 k hk).trans e⟩), hrow⟩ (by have := (h.lt t).1; omega) hl hN
  rw [updF_self] at key
  exact key

/-- The targets of t have turned; the old row may serve other ends now. -/
theorem Lay.turnT {w w' : World} (h : Lay base w R g pm wm T W E nm pf N) {R' : Nat → Role} {t N' : Nat} (ht : R t = .proc) {tv' : Value} {T' : List Nat} (hz : w.heap.size ≤ w'.heap.size) (hR : ∀ k, R' k = R k ∨ (R' k = .rowT t ∧ R k = .other) ∨ (R' k = .other ∧ R k = .rowT t)) (hR0 : ∀ k, k < w.heap.size → R k ≠ .rowT t → R' k = R k) (hfr : ∀ k, w'.heap.size ≤ k → R' k = .other)
    (ho : ∀ k, k < w.heap.size → R k ≠ .other → k ≠ t → R k ≠ .rowT t → w'.heap[k]? = w.heap[k]?)
    (hb : ∃ s tv wv noted, w.heap[t]? = some (.cells #[.string (nm t), .string s, tv, wv, .bool noted, .int .i64 0, .int .i64 0, .int .i64 0, .int .i64 0] 102 (0, 0)) ∧ w'.heap[t]? = some (.cells #[.string (nm t), .string s, tv', wv, .bool noted, .int .i64 0, .int .i64 0, .int .i64 0, .int .i64 0] 102 (0, 0)))
    (hrow : RowOf base w' R' (.rowT t) tv' T'.length (ptrs T')) (hl : T'.length ≤ N') (hN : N ≤ N') : Lay base w' R' g pm wm (updF T t T') W E nm pf N' := by
  obtain ⟨s, tv, wv, noted, hb1, hb2⟩ := hb
  obtain ⟨s', tv2, wv', noted', hb3, hs, hT, hW⟩ := (h.pr t ht).ex
  have e := hb1.symm.trans hb3
  simp at e
  obtain ⟨rfl, rfl, rfl, rfl⟩ := e
  have hpr : ∀ k, R' k = .proc ↔ R k = .proc := fun k => by
    rcases hR k with e | ⟨e, e'⟩ | ⟨e, e'⟩
    · rw [e]
    · rw [e, e']; exact ⟨nofun, nofun⟩
    · rw [e, e']; exact ⟨nofun, nofun⟩
  have key : Lay base w' R' g pm wm (updF T t T') (updF W t (W t)) E nm pf N' := by
    refine h.turnProc ht hz hpr hfr (fun k h1 h2 h3 h4 h5 => ⟨ho k h1 h2 h3 h4, hR0 k h1 h4⟩) ⟨s, tv', wv, noted, hb2, hs, hrow, hW.frame (fun k hk e => ⟨ho k hk (by rw [e]; nofun) (fun e' => by rw [e', ht] at e; cases e) (by rw [e]; nofun), (hR0 k hk (by rw [e]; nofun)).trans e⟩)⟩ hl (by have := (h.lt t).2; omega) hN
  rw [updF_self] at key
  exact key

/-- Rows of targets are as they were. -/
def Kt (R : Nat → Role) (w w' : World) : Prop := ∀ k p, R k = .rowT p → w'.heap[k]? = w.heap[k]?

set_option maxHeartbeats 1000000 in
theorem unwait_is (w : World) (h : Lay base w R g pm wm T W E nm pf N) (hN : N ≤ 100000000) {q t last n l : Nat} (hq : R q = .proc) (ht : R t = .proc) (hl : R last = .proc) (hE : E (q, t) = some n) (hlen : (W t).length = l + 1) (hn : n < l + 1) (hlast : (W t)[l]? = some last) :
    Calls Ybaf.prog 68 #[ptr g, ptr q, ptr t] w fun e w' => e = .returned (.tuple #[]) ∧ Lay base w' R g pm wm T (updF W t (((W t).set n last).take l)) (updE (updE E (last, t) (some n)) (q, t) none) nm pf (N + 1) ∧ Fr R R w w' ∧ Kt R w w' := by
  obtain ⟨c, lc, li, cv, iv, xc, xi, hg, hc, hlc, hli, hC, hI, hone⟩ := h.gr.ex
  obtain ⟨s, tv, wv, noted, hb, hs, hT, hW⟩ := (h.pr t ht).ex
  have hwm := h.wm_is
  have hcells : ∀ p, R p = .proc → IsCells w p := fun p hp => h.cells hp
  have hln := (h.lt t).2
  rw [hlen] at hW hln
  obtain ⟨b, cap, cur, rfl, hW1, hW2, hW3, hW4, hW5, hW6⟩ : ∃ b cap cur, wv = .slice (some ⟨b, 0, none⟩) (l + 1) cap ∧ base ≤ b ∧ w.heap[b]? = some (.cells cur 68) ∧ l + 1 ≤ cap ∧ cap ≤ maxLen ∧ cur.size = cap * 1 ∧ List.take ((l + 1) * 1) cur.toList = ptrs (W t) := by
    rcases hW.own.2 with ⟨_, e⟩ | h'
    · omega
    · exact h'
  have g1 := cell_of_blk hg (i := 1) rfl
  have t3 := cell_of_blk hb (i := 3) rfl
  have el : w.cell? ⟨b, l, none⟩ = some (ptr last) := by rw [hW.own.cellAt l (by omega)]; simp [hlast]
  go_enter Ybaf.func68, Ybaf.ntmps68
  go_wp2_with (at_lookup; refine wpList_look_edge _ rfl _ _ rfl rfl hwm hcells (q, t) rfl hq ht ?_; rw [hE]; simp only [Option.getD_some])
  go_quiet (fail)
  have h0 : Lay base (w.drewN nq) R g pm wm T W E nm pf N := h.frame (w' := w.drewN nq) (Nat.le_refl _) (fun _ _ _ => rfl) (Nat.le_refl _)
  have hbR : R b = .rowW t := hW.role b rfl
  have htb : t ≠ b := fun e => by rw [← e, ht] at hbR; cases hbR
  have hW0 : (w.drewN nq).ownsRow base 68 1 (.slice (some ⟨b, 0, none⟩) (l + 1) cap) (l + 1) (ptrs (W t)) := hW.own
  obtain ⟨hW1, hgr1⟩ := hW0.stored n (ptr last)
  rw [← List.map_set] at hW1
  have h1 : Lay base ((w.drewN nq).setCell ⟨b, n, none⟩ (ptr last)) R g pm wm T (updF W t ((W t).set n last)) E nm pf N :=
    h0.turnW ht (by rw [set_size]; exact Nat.le_refl _) (fun _ => .inl rfl) (fun _ _ => rfl) (fun k hk => h.fresh k (by rw [set_size] at hk; exact hk)) (fun k _ _ _ hk => set_other _ _ (fun e => hk (by rw [e]; exact hbR))) ⟨s, _, _, noted, hb, (set_other _ _ htb).trans hb⟩ ⟨by simpa [hlen] using hW1, hW.role⟩ (by simp; omega) (Nat.le_refl _)
  have fn : w.frozen? ⟨b, n, none⟩ = false := hW.own.frozenAt n
  obtain ⟨vn, en⟩ : ∃ v, w.cell? ⟨b, n, none⟩ = some v := by rw [hW.own.cellAt n (by omega)]; exact ⟨(ptrs (W t))[n]'(by simp; omega), List.getElem?_eq_getElem _⟩
  have hg1' : ((w.drewN nq).setCell ⟨b, n, none⟩ (ptr last)).cell? ⟨g, 1, none⟩ = some (.map (some wm)) := by
    rw [World.cell?_of_block (w := w.drewN nq) (set_other _ _ (fun e => by rw [← e, h.rg] at hbR; cases hbR))]; exact g1
  go_wp2_with (at_mapUpdate; refine wpList_put_edge _ rfl _ _ _ rfl rfl h1.wm_is (fun p hp => h1.cells hp) (last, t) rfl hl ht n rfl ?_)
  intro w2 hm2 ht2
  have h2 := h1.turnWaits ht2 hm2 (by omega)
  have htw : t ≠ wm := fun e => by have := h.rw; rw [← e, ht] at this; cases this
  have hbw : b ≠ wm := fun e => by have := h.rw; rw [← e, hbR] at this; cases this
  have hgw : g ≠ wm := fun e => by have := h.rw; rw [← e, h.rg] at this; cases this
  have hbt2 : w2.heap[t]? = _ := (turned_block ht2 htw).trans ((set_other _ _ htb).trans hb)
  have hgg2 : w2.heap[g]? = _ := (turned_block ht2 hgw).trans ((set_other _ _ (fun e => by rw [← e, h.rg] at hbR; cases hbR)).trans hg)
  have hW2 : w2.ownsRow base 68 1 (.slice (some ⟨b, 0, none⟩) (l + 1) cap) (l + 1) (ptrs ((W t).set n last)) := own_of_block hW1 (fun k hk => by cases hk; exact turned_block ht2 hbw)
  have hF2 : Fr R R w w2 := ⟨ht2.grown.os, ht2.grown.tape, ht2.grown.output, by have := turned_size ht2; rw [set_size] at this; exact this, fun k _ e => ⟨e, (turned_block ht2 (fun e' => by rw [e', h.rw] at e; cases e)).trans (set_other _ _ (fun e' => by rw [e', hbR] at e; cases e))⟩, fun _ e => e⟩
  have hK2 : Kt R w w2 := fun k p e => (turned_block ht2 (fun e' => by rw [e', h.rw] at e; cases e)).trans (set_other _ _ (fun e' => by rw [e', hbR] at e; cases e))
  clear hm2 ht2 h1 hW1 hgr1 hg1' en fn h0 hwm hcells el t3 g1
  have t3 := cell_of_blk hbt2 (i := 3) rfl
  have tf := frozen_of_blk hbt2 3
  have g1 := cell_of_blk hgg2 (i := 1) rfl
  have fl : w2.frozen? ⟨b, l, none⟩ = false := hW2.frozenAt l
  obtain ⟨vl, el⟩ : ∃ v, w2.cell? ⟨b, l, none⟩ = some v := by rw [hW2.cellAt l (by omega)]; exact ⟨(ptrs ((W t).set n last))[l]'(by simp; omega), List.getElem?_eq_getElem _⟩
  go_wp2
  go_region
  obtain ⟨hW3', hgr3⟩ := hW2.stored l (.pointer none)
  have hbt3 : (w2.setCell ⟨b, l, none⟩ (.pointer none)).drew.heap[t]? = _ := (set_other l (.pointer none) htb).trans hbt2
  have hgg3 : (w2.setCell ⟨b, l, none⟩ (.pointer none)).drew.heap[g]? = _ := (set_other l (.pointer none) (fun e => by rw [← e, h.rg] at hbR; cases hbR)).trans hgg2
  have hW4 : (w2.setCell ⟨b, l, none⟩ (.pointer none)).drew.ownsRow base 68 1 (.slice (some ⟨b, 0, none⟩) l cap) l (ptrs (((W t).set n last).take l)) := by
    have := own_shorter hW3' (m := l) (by omega)
    rw [List.take_set_of_le (Nat.le_refl _), ← List.map_take] at this
    exact this
  have hF3 : Fr R R w2 (w2.setCell ⟨b, l, none⟩ (.pointer none)).drew := ⟨rfl, rfl, rfl, by show _ ≤ (w2.setCell _ _).heap.size; rw [set_size]; exact Nat.le_refl _, fun k _ e => ⟨e, set_other _ _ (fun e' => by rw [e', hbR] at e; cases e)⟩, fun _ e => e⟩
  have hK3 : Kt R w2 (w2.setCell ⟨b, l, none⟩ (.pointer none)).drew := fun k p e => set_other _ _ (fun e' => by rw [e', hbR] at e; cases e)
  have hz3 : (w2.setCell ⟨b, l, none⟩ (.pointer none)).drew.heap.size = w2.heap.size := set_size _ _ _
  have ho3 : ∀ k, k ≠ b → (w2.setCell ⟨b, l, none⟩ (.pointer none)).drew.heap[k]? = w2.heap[k]? := fun k hk => set_other _ _ hk
  generalize (w2.setCell ⟨b, l, none⟩ (.pointer none)).drew = w3 at hbt3 hgg3 hW4 hF3 hK3 hz3 ho3 ⊢
  clear hW3' hgr3 el fl g1 tf t3
  have t3 := cell_of_blk hbt3 (i := 3) rfl
  have tf := frozen_of_blk hbt3 3
  have hlc : l ≤ cap := by omega
  go_wp2
  go_region
  have hgt : g ≠ t := fun e => by have := h.rg; rw [e, ht] at this; cases this
  have h4 : Lay base (w3.setCell ⟨t, 3, none⟩ (.slice (some ⟨b, 0, none⟩) l cap)).drew R g pm wm T (updF (updF W t ((W t).set n last)) t (((W t).set n last).take l)) (updE E (last, t) (some n)) nm pf (N + 1) := by
    refine h2.turnW (w' := (w3.setCell ⟨t, 3, none⟩ (.slice (some ⟨b, 0, none⟩) l cap)).drew) ht (by show _ ≤ (w3.setCell _ _).heap.size; rw [set_size, hz3]; exact Nat.le_refl _) (fun _ => .inl rfl) (fun _ _ => rfl) (fun k hk => h2.fresh k (by change (w3.setCell _ _).heap.size ≤ k at hk; rw [set_size, hz3] at hk; exact hk)) (fun k _ _ hk hk2 => (set_other _ _ hk).trans (ho3 k (fun e => hk2 (by rw [e]; exact hbR)))) ⟨s, _, _, noted, hbt2, set_blk (i := 3) hbt3 _⟩ ⟨?_, fun k hk => by cases hk; exact hbR⟩ (by simp; omega) (Nat.le_refl _)
    have := own_of_block (w' := (w3.setCell ⟨t, 3, none⟩ (.slice (some ⟨b, 0, none⟩) l cap)).drew) hW4 (fun k hk => by cases hk; exact set_other _ _ (Ne.symm htb))
    have e : (((W t).set n last).take l).length = l := by simp; omega
    rw [e]; exact this
  have g1 : (w3.setCell ⟨t, 3, none⟩ (.slice (some ⟨b, 0, none⟩) l cap)).drew.cell? ⟨g, 1, none⟩ = some (.map (some wm)) := cell_of_blk ((set_other _ _ hgt).trans hgg3) (i := 1) rfl
  have hF4 : Fr R R w3 (w3.setCell ⟨t, 3, none⟩ (.slice (some ⟨b, 0, none⟩) l cap)).drew := ⟨rfl, rfl, rfl, by show _ ≤ (w3.setCell _ _).heap.size; rw [set_size]; exact Nat.le_refl _, fun k _ e => ⟨e, set_other _ _ (fun e' => by rw [e', ht] at e; cases e)⟩, fun _ e => e⟩
  have hK4 : Kt R w3 (w3.setCell ⟨t, 3, none⟩ (.slice (some ⟨b, 0, none⟩) l cap)).drew := fun k p e => set_other _ _ (fun e' => by rw [e', ht] at e; cases e)
  generalize (w3.setCell ⟨t, 3, none⟩ (.slice (some ⟨b, 0, none⟩) l cap)).drew = w4 at h4 g1 hF4 hK4 ⊢
  have HF := hide ((hF2.trans hF3).trans hF4)
  have HK : Hid (Kt R w w4) := hide (fun k p e => (hK4 k p e).trans ((hK3 k p e).trans (hK2 k p e)))
  clear hF2 hF3 hF4 hK2 hK3 hK4 hbt3 hgg3 hW4 hz3 ho3 hlc t3 tf hW2 hgg2 hbt2 h2
  go_wp2_with (at_delete; refine wpList_del_edge _ rfl _ _ rfl rfl h4.wm_is (fun p hp => h4.cells hp) (q, t) rfl hq ht ?_; intro w5 hm5 ht5)
  go_end0
  have h5 := h4.turnWaits ht5 hm5 (Nat.le_refl _)
  have e : updF (updF W t ((W t).set n last)) t (((W t).set n last).take l) = updF W t (((W t).set n last).take l) := by
    funext k; unfold updF; split <;> rfl
  rw [e] at h5
  refine ⟨rfl, h5, (unhide HF).trans ⟨ht5.grown.os, ht5.grown.tape, ht5.grown.output, turned_size ht5, fun k _ e => ⟨e, turned_block ht5 (fun e' => by rw [e', h.rw] at e; cases e)⟩, fun _ e => e⟩, fun k p e => (turned_block ht5 (fun e' => by rw [e', h.rw] at e; cases e)).trans (unhide HK k p e)⟩
end

end Go.Proofs.YbulkahtqFmt
