/-
  THE PLAN, as it stands when all is laid.
-/
import Derived.Test.YbulkaibePkgs
import Derived.Test.YbulkaibeLoop3
namespace Go.Proofs.Ybulkaibe
open Go.RowKit Go.WideMaps Go.Maps Kit
open Go.ChangeMaps (setBlock heap_setBlock_other)

theorem Nod.on {w w' : World} {c nr cn : Nat} {cb : Nat → Nat} (h : Nod w c nr cn cb) (h1 : w'.cell? ⟨c, 10, none⟩ = w.cell? ⟨c, 10, none⟩) (h2 : w'.heap[nr]? = w.heap[nr]?) : Nod w' c nr cn cb := by
  have e : ∀ {o : Nat}, w'.cell? ⟨nr, o, none⟩ = w.cell? ⟨nr, o, none⟩ := fun {o} => World.cell?_of_block (w := w) h2
  refine ⟨h1.trans h.sl, fun j hj => ?_⟩
  obtain ⟨x0, x1, x2, x3, x4, x5⟩ := h.at_ j hj
  exact ⟨e.trans x0, e.trans x1, e.trans x2, e.trans x3, e.trans x4, e.trans x5⟩

theorem begin_ok {W2 w3 w3' w4 : World} {cc pB wB lB k nr cn mb cmm Nn : Nat} {P Wt C : Nat → Nat} {pol : ByteArray} {rb : Nat → Nat} (hk0 : 0 < k) (hC : ∀ i, C i < 256)
    (hPg : Pg W2 cc pB wB k P Wt pol (.slice (some ⟨nr, 0, none⟩) 3 cn) k (fun q => (P q % 4 : Nat)) (fun q => (Wt q % 5 : Nat)) w3) (hB3 : Below w3.heap.size w3 w3') (hNn : Nn = w3'.heap.size)
    (hpl : w4.heap[Nn + 3]? = some (.cells #[ptr cc, .map none, .slice (some ⟨mb, 0, none⟩) 3 cmm, .map (some Nn), .map (some (Nn + 1)), .map (some (Nn + 2))] 77 (0, 0))) (hpm : w4.heap[Nn]? = some (.map #[] 0)) (hcm : w4.heap[Nn + 2]? = some (.map #[] 0))
    (hR : ∃ Wr : World, Wr.heap.size = Nn + 4 ∧ Rms Wr (Nn + 1) (fun j => (C j : Nat)) 3 rb w4) (hB4 : Below Nn w3' w4) (hl : Row W2 lB k (fun _ => 0)) (ol : lB ∉ [cc, pB, wB]) (r1 r2 : Obj)
    (hr1 : r1 = .cells #[.int .i64 (C 0 : Nat), .int .i64 (C 1 : Nat), .int .i64 (C 2 : Nat)] 63 (0, 0)) (hr2 : r2 = .cells #[.int .i64 0, .int .i64 0, .int .i64 0] 64 (0, 0)) :
    ∃ A : Ad, A.c = cc ∧ A.pl = Nn + 3 ∧ A.k = k ∧ A.pol = pol ∧ A.pri = (fun q => P q % 4) ∧ A.wt = (fun q => Wt q % 5) ∧ L3 A ((w4.alloc r1).alloc r2) lB w4.heap.size (w4.heap.size + 1) 0 ((w4.alloc r1).alloc r2) ∧ Ap A lB w4.heap.size (w4.heap.size + 1) ∧ (∀ x, x ∈ A.dyn → W2.heap.size ≤ x ∧ x < w4.heap.size) ∧ Upd W2.heap.size [cc, pB, wB] W2 ((w4.alloc r1).alloc r2) := by
  obtain ⟨Wr, hWr, hRm⟩ := hR
  obtain ⟨a, cpk, pb, wb, e1, e2, e3, e4⟩ := hPg.ex
  obtain ⟨pr, rfl, hpr, hprl, hrow⟩ := own_at0 e2 hk0
  have z2 := hPg.ud.size
  have z3 := hB3.size
  have z4 := hB4.size
  have z4' : Nn + 4 ≤ w4.heap.size := by have := hRm.ud.size; omega
  have lc := hPg.lc
  have lpl := blk_lt hpl
  have b34 : Below w3.heap.size w3 w4 := hB3.trans (hB4.mono (by omega))
  have rbk : ∀ j, j < 3 → Nn + 4 ≤ rb j ∧ rb j < w4.heap.size := fun j hj => by have := hRm.bk j hj; exact ⟨by rw [← hWr]; exact this.2, blk_lt this.1⟩
  refine ⟨⟨cc, Nn + 3, Nn, Nn + 1, Nn + 2, pr, cpk, k, rb, pb, wb, fun q => P q % 4, fun q => Wt q % 5, pol⟩, rfl, rfl, rfl, rfl, rfl, rfl, ?_⟩
  have hdyn : ∀ x, x ∈ Ad.dyn ⟨cc, Nn + 3, Nn, Nn + 1, Nn + 2, pr, cpk, k, rb, pb, wb, fun q => P q % 4, fun q => Wt q % 5, pol⟩ → x = Nn ∨ x = Nn + 2 ∨ (Nn + 4 ≤ x ∧ x < w4.heap.size) := fun x hx => by
    simp only [Ad.dyn, List.mem_cons, List.not_mem_nil, or_false] at hx
    rcases hx with h | h | h | h | h
    · exact .inl h
    · exact .inr (.inl h)
    · rw [h]; exact .inr (.inr (rbk 0 (by omega)))
    · rw [h]; exact .inr (.inr (rbk 1 (by omega)))
    · rw [h]; exact .inr (.inr (rbk 2 (by omega)))
  have hsta : ∀ x, Ad.sta ⟨cc, Nn + 3, Nn, Nn + 1, Nn + 2, pr, cpk, k, rb, pb, wb, fun q => P q % 4, fun q => Wt q % 5, pol⟩ x → x = Nn + 3 ∨ x = Nn + 1 ∨ x = cc ∨ (W2.heap.size ≤ x ∧ x < w3.heap.size) := fun x hx => by
    rcases hx with h | h | h | h | ⟨i, hi, h | h⟩
    · exact .inl h
    · exact .inr (.inr (.inl h))
    · rw [h]; exact .inr (.inr (.inr ⟨hpr, hprl⟩))
    · exact .inr (.inl h)
    · rw [h]; exact .inr (.inr (.inr ⟨(e4 i hi).1, (e3.lt hi).1⟩))
    · rw [h]; exact .inr (.inr (.inr ⟨(e4 i hi).2, (e3.lt hi).2⟩))
  have c4 : w4.heap[cc]? = some (.cells (clCells (.slice (some ⟨nr, 0, none⟩) 3 cn) (.slice (some ⟨pr, 0, none⟩) k cpk)) 45 (0, 0)) := (b34.block cc (by omega)).trans e1
  have fx : Fix ⟨cc, Nn + 3, Nn, Nn + 1, Nn + 2, pr, cpk, k, rb, pb, wb, fun q => P q % 4, fun q => Wt q % 5, pol⟩ w4 := by
    refine ⟨⟨_, hpl⟩, cell_of_blk c4 (i := 11) rfl, fun i hi => ?_, hk0, e3.of_blocks (fun i hi => ⟨b34.block _ (e3.lt hi).1, b34.block _ (e3.lt hi).2⟩), hRm.mp, fun x hx hd => ?_, by show Nn ≠ Nn + 2; omega, fun j hj => ?_, fun i j hi hj h => hRm.inj i j hi hj h⟩
    · have : w3.cell? ⟨pr, i, none⟩ = some (ptr (pb i)) := hrow i _ (by rw [List.getElem?_map, List.getElem?_range hi]; rfl)
      exact (b34.cell (p := ⟨pr, i, none⟩) hprl).trans this
    · have h1 := hsta x hx
      have h2 := hdyn x hd
      omega
    · have := (rbk j hj).1
      show rb j ≠ Nn ∧ rb j ≠ Nn + 2
      omega
  have hp4 : Pln ⟨cc, Nn + 3, Nn, Nn + 1, Nn + 2, pr, cpk, k, rb, pb, wb, fun q => P q % 4, fun q => Wt q % 5, pol⟩ w4 (fun _ => none) (fun j => (C j : Nat)) (fun _ => 0) 0 := by
    refine ⟨fx, ⟨_, mapIs_at hpm _ _, fun i hi => rfl⟩, ⟨_, mapIs_at hcm _ _, fun j hj => rfl⟩, fun j hj => (hRm.bk j hj).1, fun i j h => (by cases h), fun j hj => ?_, fun j hj => by omega⟩
    have := hC j
    omega
  have b45 : Below w4.heap.size w4 ((w4.alloc r1).alloc r2) := ((Below.refl _ _).alloc (Nat.le_refl _) _).alloc (by simp) _
  have llB := hl.lt
  have hl3 : Row w3 lB k (fun _ => 0) := hl.of_block (hPg.ud.block lB llB ol)
  have hl5 : Row ((w4.alloc r1).alloc r2) lB k (fun _ => 0) := hl3.of_block ((b45.block lB (by omega)).trans (b34.block lB (by omega)))
  have hr5 : Row ((w4.alloc r1).alloc r2) w4.heap.size 3 (fun j => (C j : Nat)) := by
    refine ⟨#[.int .i64 (C 0 : Nat), .int .i64 (C 1 : Nat), .int .i64 (C 2 : Nat)], 63, ?_, fun q hq => ?_⟩
    · rw [blk_old _ _ (by simp), hr1]; exact blk_new _ _
    · match q, hq with
      | 0, _ => rfl
      | 1, _ => rfl
      | 2, _ => rfl
  have hc5 : Row ((w4.alloc r1).alloc r2) (w4.heap.size + 1) 3 (fun _ => 0) := by
    refine ⟨#[.int .i64 0, .int .i64 0, .int .i64 0], 64, ?_, fun q hq => ?_⟩
    · rw [hr2]
      have := blk_new (w4.alloc r1) (.cells #[.int .i64 0, .int .i64 0, .int .i64 0] 64 (0, 0))
      simpa only [World.size_alloc] using this
    · match q, hq with
      | 0, _ => rfl
      | 1, _ => rfl
      | 2, _ => rfl
  have nl : lB ≠ cc := fun e => ol (by simp [e])
  refine ⟨⟨_, _, _, 0, Nat.le_refl _, ⟨hp4.below b45, hl5.congr (fun q _ => by simp), hr5, hc5, Upd.refl _ _ _⟩, fun q _ => rfl⟩, ⟨fun h => ?_, fun h => ?_, fun h => ?_, fun h => ?_, fun h => ?_, fun h => ?_, by omega, by omega, by omega⟩, fun x hx => ?_, ?_⟩
  · have := hsta _ h; omega
  · have := hsta _ h; omega
  · have := hsta _ h; omega
  · have := hdyn _ h; omega
  · have := hdyn _ h; omega
  · have := hdyn _ h; omega
  · have := hdyn _ hx; omega
  · exact hPg.ud.trans (Upd.of_below ((b34.mono z2).trans (b45.mono (by omega))))

end Go.Proofs.Ybulkaibe
