/-
  WHAT THE LAW KEEPS BESIDE THE PLAN: where each package runs, what room is left, how many run.
-/
import Derived.Test.YbulkaibeLaid
import Derived.Test.YbulkaibeSort
import Derived.Test.YbulkaibePiece
import Derived.Deep.Cut
import Derived.Deep.RegionHeld3
import Derived.BigQuiet
namespace Go.Proofs.Ybulkaibe
open Go.RowKit Go.WideMaps Go.Maps Kit
open Go.ChangeMaps (setBlock heap_setBlock_other)

/-- What the case's cells hold. -/
structure Zs (Z : Array Value) (P W H C : Nat → Nat) (sel : Value) (mn : Bool) : Prop where
  pri : ∀ i, i < 6 → Z[i]? = some (.int .u8 (P i : Nat))
  wt : ∀ i, i < 6 → Z[6 + i]? = some (.int .u8 (W i : Nat))
  wh : ∀ i, i < 6 → Z[12 + i]? = some (.int .u8 (H i : Nat))
  cap : ∀ j, j < 3 → Z[18 + j]? = some (.int .u8 (C j : Nat))
  sel : Z[21]? = some sel
  mn : Z[24]? = some (.bool mn)

abbrev namesC : Array Value := #[.string ⟨#[97]⟩, .string ⟨#[98]⟩, .string ⟨#[99]⟩]
theorem namesC_at {j : Nat} (hj : j < 3) : namesC[j]? = some (.string (nnm j)) := by
  match j, hj with
  | 0, _ => rfl
  | 1, _ => rfl
  | 2, _ => rfl
theorem before_normal {P : Program} {ops : Array Oper} {m : Nat} {Q : Exit → Act → World → Prop} {a : Act} {w : World} (h : wpOp P ops Q m (Q .normal) a w) : beforeLast P ops m Q .normal a w := h

theorem before_then {P : Program} {ops : Array Oper} {m : Nat} {K : Act → World → Prop} {Q : Exit → Act → World → Prop} {a : Act} {w : World} (h : wpOp P ops (Exit.then K Q) m K a w) : beforeLast P ops m (Exit.then K Q) .normal a w := h

/-- A place, as the law keeps it. -/
def locI : Option Nat → Int
  | none => -1
  | some j => j

/-- The law's own three blocks lie apart. -/
structure Ap (A : Ad) (lB rB cB : Nat) : Prop where
  sl : ¬ A.sta lB
  sr : ¬ A.sta rB
  sc : ¬ A.sta cB
  dl : lB ∉ A.dyn
  dr : rB ∉ A.dyn
  dc : cB ∉ A.dyn
  e1 : lB ≠ rB
  e2 : lB ≠ cB
  e3 : rB ≠ cB

/-- The plan, and beside it what the law keeps. -/
structure M3 (A : Ad) (W : World) (lB rB cB : Nat) (loc : Nat → Option Nat) (room cnt : Nat → Int) (N : Nat) (lr rr cr : Nat → Int) (wx : World) : Prop where
  p : Pln A wx loc room cnt N
  l : Row wx lB A.k lr
  r : Row wx rB 3 rr
  c : Row wx cB 3 cr
  ud : Upd W.heap.size (lB :: rB :: cB :: A.dyn) W wx

section
variable {A : Ad} {W wx w' : World} {lB rB cB : Nat} {loc loc' : Nat → Option Nat} {room cnt room' cnt' : Nat → Int} {N N' : Nat} {lr rr cr lr' rr' cr' : Nat → Int}
theorem M3.setL (h : M3 A W lB rB cB loc room cnt N lr rr cr wx) (ha : Ap A lB rB cB) (i : Nat) (v : Int) : M3 A W lB rB cB loc room cnt N (updF lr i v) rr cr (wx.setCell ⟨lB, i, none⟩ (.int .i64 v)) :=
  ⟨h.p.set _ ha.sl ha.dl, h.l.set i v, h.r.set_other _ (Ne.symm ha.e1), h.c.set_other _ (Ne.symm ha.e2), h.ud.trans (Upd.of_set _ _ _ (.inl (by simp)))⟩
theorem M3.setR (h : M3 A W lB rB cB loc room cnt N lr rr cr wx) (ha : Ap A lB rB cB) (i : Nat) (v : Int) : M3 A W lB rB cB loc room cnt N lr (updF rr i v) cr (wx.setCell ⟨rB, i, none⟩ (.int .i64 v)) :=
  ⟨h.p.set _ ha.sr ha.dr, h.l.set_other _ ha.e1, h.r.set i v, h.c.set_other _ (Ne.symm ha.e3), h.ud.trans (Upd.of_set _ _ _ (.inl (by simp)))⟩
theorem M3.setC (h : M3 A W lB rB cB loc room cnt N lr rr cr wx) (ha : Ap A lB rB cB) (i : Nat) (v : Int) : M3 A W lB rB cB loc room cnt N lr rr (updF cr i v) (wx.setCell ⟨cB, i, none⟩ (.int .i64 v)) :=
  ⟨h.p.set _ ha.sc ha.dc, h.l.set_other _ ha.e2, h.r.set_other _ ha.e3, h.c.set i v, h.ud.trans (Upd.of_set _ _ _ (.inl (by simp)))⟩
theorem M3.drew (h : M3 A W lB rB cB loc room cnt N lr rr cr wx) : M3 A W lB rB cB loc room cnt N lr rr cr wx.drew :=
  ⟨h.p.below (Below.refl _ _).drew, h.l.of_block rfl, h.r.of_block rfl, h.c.of_block rfl, h.ud.drew⟩
theorem M3.undrew (h : M3 A W lB rB cB loc room cnt N lr rr cr wx.drew) : M3 A W lB rB cB loc room cnt N lr rr cr wx :=
  ⟨h.p.below (w := wx.drew) (w' := wx) ⟨rfl, rfl, rfl, Nat.le_refl _, fun _ _ => rfl⟩, h.l.of_block rfl, h.r.of_block rfl, h.c.of_block rfl, ⟨h.ud.os, h.ud.tape, h.ud.output, h.ud.size, h.ud.block⟩⟩
theorem M3.below (h : M3 A W lB rB cB loc room cnt N lr rr cr wx) (hB : Below wx.heap.size wx w') : M3 A W lB rB cB loc room cnt N lr rr cr w' :=
  ⟨h.p.below hB, h.l.below hB, h.r.below hB, h.c.below hB, h.ud.trans ((Upd.of_below hB).mono h.ud.size (fun _ _ h => h))⟩
theorem M3.upd (h : M3 A W lB rB cB loc room cnt N lr rr cr wx) (hp : Pln A w' loc' room' cnt' N') (hU : Upd wx.heap.size A.dyn wx w') : M3 A W lB rB cB loc' room' cnt' N' lr rr cr w' :=
  ⟨hp, h.l.on h.p hU, h.r.on h.p hU, h.c.on h.p hU, h.ud.trans (hU.mono h.ud.size (fun _ _ h => by simp [h]))⟩
theorem M3.congr (h : M3 A W lB rB cB loc room cnt N lr rr cr wx) (e1 : ∀ q, q < A.k → lr q = lr' q) (e2 : ∀ q, q < 3 → rr q = rr' q) (e3 : ∀ q, q < 3 → cr q = cr' q) : M3 A W lB rB cB loc room cnt N lr' rr' cr' wx :=
  ⟨h.p, h.l.congr e1, h.r.congr e2, h.c.congr e3, h.ud⟩
theorem M3.cell (h : M3 A W lB rB cB loc room cnt N lr rr cr wx) {b o : Nat} {v : Value} (hc : W.cell? ⟨b, o, none⟩ = some v) (hb : b ∉ lB :: rB :: cB :: A.dyn) : wx.cell? ⟨b, o, none⟩ = some v :=
  (h.ud.cell (p := ⟨b, o, none⟩) (cell_lt hc) hb).trans hc
end

end Go.Proofs.Ybulkaibe
