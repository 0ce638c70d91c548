/-
  THE PACKAGES, as the law lays them.
-/
import Derived.Test.YbulkaibeMod
namespace Go.Proofs.Ybulkaibe
open Go.RowKit Go.WideMaps Go.Maps Kit
open Go.ChangeMaps (setBlock heap_setBlock_other)

/-- A package's cells. -/
abbrev pkC (i : Nat) (nv : Value) (pol : ByteArray) (p m : Nat) : Array Value := #[.string (pnm i), nv, .bool false, .string pol, .string ⟨#[]⟩, .int .i64 (p : Nat), .map (some m), .slice none 0 0, .slice none 0 0, .slice none 0 0]

/-- The first i packages are laid. -/
structure Pg (W1 : World) (cc pB wB k : Nat) (P W : Nat → Nat) (pol : ByteArray) (nv : Value) (i : Nat) (fp fw : Nat → Int) (wx : World) : Prop where
  ex : ∃ a cpk pb wb, wx.heap[cc]? = some (.cells (clCells nv (.slice a i cpk)) 45 (0, 0)) ∧ wx.ownsRow W1.heap.size 52 1 (.slice a i cpk) i ((List.range i).map (fun q => ptr (pb q))) ∧ Pk wx i pb wb (fun q => P q % 4) (fun q => W q % 5) pol ∧ (∀ q, q < i → W1.heap.size ≤ pb q ∧ W1.heap.size ≤ wb q)
  p : Row wx pB k fp
  w : Row wx wB k fw
  ud : Upd W1.heap.size [cc, pB, wB] W1 wx
  lc : cc < W1.heap.size
  lp : pB < W1.heap.size
  lw : wB < W1.heap.size
  d1 : cc ≠ pB
  d2 : cc ≠ wB
  d3 : pB ≠ wB

section
variable {W1 wx : World} {cc pB wB k : Nat} {P W : Nat → Nat} {pol : ByteArray} {nv : Value} {i : Nat} {fp fw fp' fw' : Nat → Int}
theorem Pg.setRow (h : Pg W1 cc pB wB k P W pol nv i fp fw wx) {b : Nat} (hb : b = pB ∨ b = wB) (o : Nat) (v : Value) : (∃ a cpk pb wb, (wx.setCell ⟨b, o, none⟩ v).heap[cc]? = some (.cells (clCells nv (.slice a i cpk)) 45 (0, 0)) ∧ (wx.setCell ⟨b, o, none⟩ v).ownsRow W1.heap.size 52 1 (.slice a i cpk) i ((List.range i).map (fun q => ptr (pb q))) ∧ Pk (wx.setCell ⟨b, o, none⟩ v) i pb wb (fun q => P q % 4) (fun q => W q % 5) pol ∧ (∀ q, q < i → W1.heap.size ≤ pb q ∧ W1.heap.size ≤ wb q)) ∧ Upd W1.heap.size [cc, pB, wB] W1 (wx.setCell ⟨b, o, none⟩ v) := by
  have hlb : b < W1.heap.size := by rcases hb with rfl | rfl; exact h.lp; exact h.lw
  have hcb : cc ≠ b := by rcases hb with rfl | rfl; exact h.d1; exact h.d2
  have K : ∀ x, x ≠ b → (wx.setCell ⟨b, o, none⟩ v).heap[x]? = wx.heap[x]? := fun x hx => Kit.set_other wx v hx
  obtain ⟨a, cpk, pb, wb, e1, e2, e3, e4⟩ := h.ex
  refine ⟨⟨a, cpk, pb, wb, (K cc hcb).trans e1, own_of_block e2 (fun g hg => K g (fun e => by have := (e2.lt g hg).1; omega)), e3.of_blocks (fun q hq => ⟨K _ (fun e => by have := (e4 q hq).1; omega), K _ (fun e => by have := (e4 q hq).2; omega)⟩), e4⟩, h.ud.trans (Upd.of_set _ _ _ (.inl (by rcases hb with rfl | rfl <;> simp)))⟩
theorem Pg.setP (h : Pg W1 cc pB wB k P W pol nv i fp fw wx) (o : Nat) (v : Int) : Pg W1 cc pB wB k P W pol nv i (updF fp o v) fw (wx.setCell ⟨pB, o, none⟩ (.int .i64 v)) :=
  ⟨(h.setRow (.inl rfl) o _).1, h.p.set o v, h.w.set_other _ (Ne.symm h.d3), (h.setRow (.inl rfl) o _).2, h.lc, h.lp, h.lw, h.d1, h.d2, h.d3⟩
theorem Pg.setW (h : Pg W1 cc pB wB k P W pol nv i fp fw wx) (o : Nat) (v : Int) : Pg W1 cc pB wB k P W pol nv i fp (updF fw o v) (wx.setCell ⟨wB, o, none⟩ (.int .i64 v)) :=
  ⟨(h.setRow (.inr rfl) o _).1, h.p.set_other _ h.d3, h.w.set o v, (h.setRow (.inr rfl) o _).2, h.lc, h.lp, h.lw, h.d1, h.d2, h.d3⟩
theorem Pg.congr (h : Pg W1 cc pB wB k P W pol nv i fp fw wx) (e1 : ∀ q, q < k → fp q = fp' q) (e2 : ∀ q, q < k → fw q = fw' q) : Pg W1 cc pB wB k P W pol nv i fp' fw' wx :=
  ⟨h.ex, h.p.congr e1, h.w.congr e2, h.ud, h.lc, h.lp, h.lw, h.d1, h.d2, h.d3⟩

theorem Pg.push {wA w3 : World} {a a' : Option Addr} {cpk c' : Nat} {pb wb : Nat → Nat} {mb pbN : Nat} {nvS : Value} (h : Pg W1 cc pB wB k P W pol nv i fp fw wx)
    (e1 : wx.heap[cc]? = some (.cells (clCells nv (.slice a i cpk)) 45 (0, 0))) (e2 : wx.ownsRow W1.heap.size 52 1 (.slice a i cpk) i ((List.range i).map (fun q => ptr (pb q)))) (e3 : Pk wx i pb wb (fun q => P q % 4) (fun q => W q % 5) pol) (e4 : ∀ q, q < i → W1.heap.size ≤ pb q ∧ W1.heap.size ≤ wb q) (hi6 : i < 6)
    (hB : Below wx.heap.size wx wA) (hm : wA.heap[mb]? = some (oneMap ((W i % 5 : Nat) : Int))) (hmb : wx.heap.size ≤ mb) (hpk : wA.heap[pbN]? = some (.cells (pkC i nvS pol (P i % 4) mb) 60 (0, 0))) (hpb : wx.heap.size ≤ pbN)
    (hown : w3.ownsRow W1.heap.size 52 1 (.slice a' (i + 1) c') (i + 1) ((List.range i).map (fun q => ptr (pb q)) ++ [ptr pbN])) (hg : wA.grownBy w3 (Value.slice a i cpk).ownBlock) :
    w3.heap[cc]? = some (.cells (clCells nv (.slice a i cpk)) 45 (0, 0)) ∧ Row w3 pB k fp ∧ Row w3 wB k fw ∧ Pg W1 cc pB wB k P W pol nv (i + 1) fp fw (w3.setCell ⟨cc, 11, none⟩ (.slice a' (i + 1) c')) := by
  have hz := hg.size
  have hzB := hB.size
  have hz0 := h.ud.size
  have lc := h.lc
  have hge : ∀ g, some g = (Value.slice a i cpk).ownBlock → W1.heap.size ≤ g := fun g hg => (e2.lt g hg.symm).1
  have hcells : ∀ g, some g = (Value.slice a i cpk).ownBlock → ∃ cur, wx.heap[g]? = some (.cells cur 52) := fun g hg => own_ne e2 hg.symm
  have KA : ∀ g, g < wA.heap.size → some g ≠ (Value.slice a i cpk).ownBlock → w3.heap[g]? = wA.heap[g]? := fun g hlt hne => hg.block g hlt hne
  have K : ∀ g, g < wx.heap.size → some g ≠ (Value.slice a i cpk).ownBlock → w3.heap[g]? = wx.heap[g]? := fun g hlt hne => (KA g (by omega) hne).trans (hB.block g hlt)
  have c3 : w3.heap[cc]? = some (.cells (clCells nv (.slice a i cpk)) 45 (0, 0)) := (K cc (by omega) (fun e => by have := hge cc e; omega)).trans e1
  have new : ∀ g, wx.heap.size ≤ g → some g ≠ (Value.slice a i cpk).ownBlock := fun g hlt e => by
    obtain ⟨cur, hc⟩ := hcells g e
    have := blk_lt hc
    omega
  have S : ∀ g, g ≠ cc → (w3.setCell ⟨cc, 11, none⟩ (.slice a' (i + 1) c')).heap[g]? = w3.heap[g]? := fun g hne => Kit.set_other w3 _ hne
  have rp : Row w3 pB k fp := h.p.of_block (K pB (by have := h.lp; omega) (fun e => by have := hge pB e; have := h.lp; omega))
  have rw' : Row w3 wB k fw := h.w.of_block (K wB (by have := h.lw; omega) (fun e => by have := hge wB e; have := h.lw; omega))
  have pk60 : ∀ q, q < i → some (pb q) ≠ (Value.slice a i cpk).ownBlock := fun q hq e => by
    obtain ⟨cur, hc⟩ := hcells _ e
    obtain ⟨nv', h'⟩ := e3.blk q hq
    rw [hc] at h'; cases h'
  have wkm : ∀ q, q < i → some (wb q) ≠ (Value.slice a i cpk).ownBlock := fun q hq e => by
    obtain ⟨cur, hc⟩ := hcells _ e
    have h' := e3.wm q hq
    rw [hc] at h'; cases h'
  refine ⟨c3, rp, rw', ⟨a', c', updF pb i pbN, updF wb i mb, ?_, ?_, ?_, fun q hq => ?_⟩, rp.of_block (S pB (Ne.symm h.d1)), rw'.of_block (S wB (Ne.symm h.d2)), ?_, h.lc, h.lp, h.lw, h.d1, h.d2, h.d3⟩
  · have := heap_setCell_same w3 cc 11 (clCells nv (.slice a i cpk)) 45 (.slice a' (i + 1) c') c3
    rw [this]; rfl
  · have e : (List.range (i + 1)).map (fun q => ptr (updF pb i pbN q)) = (List.range i).map (fun q => ptr (pb q)) ++ [ptr pbN] := by
      rw [List.range_succ, List.map_append]
      congr 1
      · refine List.map_congr_left (fun q hq => ?_)
        rw [updF_other _ _ (by have := List.mem_range.1 hq; omega)]
      · simp [updF_same]
    rw [e]
    exact own_of_block hown (fun g hg' => S g (by have := (hown.lt g hg').1; omega))
  · refine ⟨fun q hq => ?_, fun q hq => ?_, fun q r hq hr e => ?_, by omega, fun q => Nat.mod_lt _ (by omega), fun q => by have := Nat.mod_lt (W q) (show 0 < 5 by omega); omega⟩
    · by_cases hqi : q = i
      · subst hqi
        rw [updF_same, updF_same]
        exact ⟨nvS, (S pbN (by omega)).trans ((KA pbN (blk_lt hpk) (new _ hpb)).trans hpk)⟩
      · rw [updF_other _ _ hqi, updF_other _ _ hqi]
        obtain ⟨nv', h'⟩ := e3.blk q (by omega)
        exact ⟨nv', (S _ (by have := (e4 q (by omega)).1; omega)).trans ((K _ (blk_lt h') (pk60 q (by omega))).trans h')⟩
    · by_cases hqi : q = i
      · subst hqi
        rw [updF_same]
        exact (S mb (by omega)).trans ((KA mb (blk_lt hm) (new _ hmb)).trans hm)
      · rw [updF_other _ _ hqi]
        have h' := e3.wm q (by omega)
        exact (S _ (by have := (e4 q (by omega)).2; omega)).trans ((K _ (blk_lt h') (wkm q (by omega))).trans h')
    · by_cases h1 : q = i <;> by_cases h2 : r = i
      · omega
      · rw [h1, updF_same, updF_other _ _ h2] at e
        have := (e3.lt (show r < i by omega)).1
        omega
      · rw [h2, updF_same, updF_other _ _ h1] at e
        have := (e3.lt (show q < i by omega)).1
        omega
      · rw [updF_other _ _ h1, updF_other _ _ h2] at e
        exact e3.inj q r (by omega) (by omega) e
  · by_cases hqi : q = i
    · subst hqi; rw [updF_same, updF_same]; omega
    · rw [updF_other _ _ hqi, updF_other _ _ hqi]; exact e4 q (by omega)
  · refine h.ud.trans ⟨hg.os.trans hB.os, hg.tape.trans hB.tape, hg.output.trans hB.output, by rw [set_size]; omega, fun g hlt hne => ?_⟩
    rw [S g (fun e => hne (by simp [e]))]
    exact K g (by omega) (fun e => by have := hge g e; omega)
end

/-- What is kept while a package is laid. -/
structure Kp (w2 : World) (cc pB wB i : Nat) (v1 : Value) (p w : Nat) (wc : World) : Prop where
  bel : Below w2.heap.size w2 wc
  k1 : wc.cell? ⟨cc, 11, none⟩ = some v1
  k2 : wc.cell? ⟨pB, i, none⟩ = some (.int .i64 (p : Nat))
  k3 : wc.cell? ⟨wB, i, none⟩ = some (.int .i64 (w : Nat))
section
variable {w2 wc : World} {cc pB wB i : Nat} {v1 : Value} {p w : Nat}
theorem Kp.s (h : Kp w2 cc pB wB i v1 p w wc) : wc.cell? ⟨cc, 11, none⟩ = some v1 ∧ wc.cell? ⟨pB, i, none⟩ = some (.int .i64 (p : Nat)) ∧ wc.cell? ⟨wB, i, none⟩ = some (.int .i64 (w : Nat)) := ⟨h.k1, h.k2, h.k3⟩
theorem Kp.alloc (h : Kp w2 cc pB wB i v1 p w wc) (o : Obj) : Kp w2 cc pB wB i v1 p w (wc.alloc o) :=
  ⟨h.bel.alloc h.bel.size _, cell_alloc o h.k1, cell_alloc o h.k2, cell_alloc o h.k3⟩
theorem Kp.sb (h : Kp w2 cc pB wB i v1 p w wc) {mb : Nat} {es : Array MapEntry} {cl : Nat} (hm : wc.heap[mb]? = some (.map es cl)) (hge : w2.heap.size ≤ mb) (o : Obj) : Kp w2 cc pB wB i v1 p w (setBlock wc mb o) := by
  have other : ∀ {b o' : Nat} {v : Value}, wc.cell? ⟨b, o', none⟩ = some v → (setBlock wc mb o).cell? ⟨b, o', none⟩ = some v := fun {b o' v} hv => by
    have hne : b ≠ mb := fun e => by rw [e] at hv; exact cell_no_map hv hm
    rw [World.cell?_of_block (w := wc) (sb_other _ hne)]; exact hv
  exact ⟨h.bel.trans ⟨rfl, rfl, rfl, by rw [sb_size]; exact Nat.le_refl _, fun k hk => sb_other _ (by omega)⟩, other h.k1, other h.k2, other h.k3⟩
end

end Go.Proofs.Ybulkaibe
