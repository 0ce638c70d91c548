/-
  THE ARGUMENT OPENED: the case, 25 cells.
-/
import Derived.Test.YbulkaibeRows
import Derived.Test.YbulkaibeLaw
import Derived.ProofKit
import Derived.OpenShut
import Derived.Deep.Slices
namespace Go.Proofs.Ybulkaibe
open Go.ChangeShapes Go.WideShapes Go.ChangeAt Go.RowKit Go.Deep Kit
open Go.ChangeMaps (open_string shut_string)

theorem own : ownKnob Yba.prog.godebug = none := by kernel_rfl
theorem laidOut : laidOutB Yba.prog = true := by kernel_rfl
theorem cells26 : Yba.prog.cellsOf 26 = 25 := by kernel_rfl
theorem cells22 : Yba.prog.cellsOf 22 = 6 := by kernel_rfl
theorem cells23 : Yba.prog.cellsOf 23 = 3 := by kernel_rfl
theorem cells24 : Yba.prog.cellsOf 24 = 1 := by kernel_rfl
theorem cells5 : Yba.prog.cellsOf 5 = 1 := by kernel_rfl
theorem cells4 : Yba.prog.cellsOf 4 = 1 := by kernel_rfl

/-- The number that a cell holds. -/
def natAt (cs : List Value) (i : Nat) : Nat := match cs[i]? with
  | some (.int _ n) => n.toNat
  | _ => 0

theorem u8_bounds {n : Int} (h : (Lit.int .u8 n).wf = true) : 0 ≤ n ∧ n < 256 := by
  simp [Lit.wf, IntKind.min, IntKind.max, IntKind.signed, IntKind.bits] at h
  omega

/-- A byte's cell. -/
theorem byte_at {H : Type} {enc : TypeId × Value → H} {W : World} {held : Bool} {spare : Nat → Bool} {m : Nat} {cs : List Value} {i : Nat} {x : DataW H × List MemPlace} (h : DataW.trod enc Yba.prog W 0 spare held m 5 ((cs.drop i).take 1) = some x) : natAt cs i < 256 ∧ cs[i]? = some (.int .u8 (natAt cs i : Nat)) := by
  obtain ⟨n, hc, _, hw⟩ := DataW.trod_int Yba.underlying5 h
  have hb := u8_bounds hw
  have hi : cs[i]? = some (.int .u8 n) := by
    have : ((cs.drop i).take 1)[0]? = some (.int .u8 n) := by rw [hc]; rfl
    rw [List.getElem?_take, if_pos (by omega), List.getElem?_drop] at this
    simpa using this
  have hn : natAt cs i = n.toNat := by unfold natAt; rw [hi]
  rw [hn]
  refine ⟨by omega, ?_⟩
  rw [hi]
  congr 2
  omega

theorem sub_at {cs : List Value} {o k i : Nat} (hi : i < k) : (((cs.drop o).take k).drop i).take 1 = (cs.drop (o + i)).take 1 := by
  rw [List.drop_take, List.take_take, List.drop_drop, Nat.min_eq_left (by omega)]

theorem open_case {H : Type} {enc : TypeId × Value → H} {W : World} {cs : Array Value} {d : DataW H} {p : List MemPlace} (h : DataW.Trod enc Yba.prog W 0 (fun _ => true) true 26 (.agg cs) d p) (hs : cs.size = 25) :
    ∃ (P Wt H C S : Nat → Nat) (a : Option Addr) (l c K T : Nat) (mn : Bool), cs = zCells P Wt H C a l c K T mn ∧ K < 256 ∧ T < 256 ∧ (∀ i, C i < 256) ∧ ∀ q, q < l → ∃ b o, a = some ⟨b, o, none⟩ ∧ W.cell? ⟨b, o + q, none⟩ = some (.int .u8 (S q : Nat)) := by
  obtain ⟨fuel, hf⟩ := h
  obtain ⟨xs, n, _, hx, _, hxl, hfs⟩ := DataW.trod_struct Yba.underlying26 hf
  have hxl8 : xs.length = 8 := hxl
  have get : ∀ i, i < 8 → ∃ x, xs[i]? = some x := fun i hi => ⟨_, List.getElem?_eq_getElem (by omega)⟩
  have cl : (Value.agg cs).cells.toList = cs.toList := rfl
  rw [cl] at hfs
  have g0 : DataW.trod enc Yba.prog W 0 (fun _ => true) true n 22 ((cs.toList.drop 0).take (Yba.prog.cellsOf 22)) = xs[0]? := hfs 0 _ rfl
  have g1 : DataW.trod enc Yba.prog W 0 (fun _ => true) true n 22 ((cs.toList.drop 6).take (Yba.prog.cellsOf 22)) = xs[1]? := hfs 1 _ rfl
  have g2 : DataW.trod enc Yba.prog W 0 (fun _ => true) true n 22 ((cs.toList.drop 12).take (Yba.prog.cellsOf 22)) = xs[2]? := hfs 2 _ rfl
  have g3 : DataW.trod enc Yba.prog W 0 (fun _ => true) true n 23 ((cs.toList.drop 18).take (Yba.prog.cellsOf 23)) = xs[3]? := hfs 3 _ rfl
  have g4 : DataW.trod enc Yba.prog W 0 (fun _ => true) true n 24 ((cs.toList.drop 21).take (Yba.prog.cellsOf 24)) = xs[4]? := hfs 4 _ rfl
  have g5 : DataW.trod enc Yba.prog W 0 (fun _ => true) true n 5 ((cs.toList.drop 22).take (Yba.prog.cellsOf 5)) = xs[5]? := hfs 5 _ rfl
  have g6 : DataW.trod enc Yba.prog W 0 (fun _ => true) true n 5 ((cs.toList.drop 23).take (Yba.prog.cellsOf 5)) = xs[6]? := hfs 6 _ rfl
  have g7 : DataW.trod enc Yba.prog W 0 (fun _ => true) true n 4 ((cs.toList.drop 24).take (Yba.prog.cellsOf 4)) = xs[7]? := hfs 7 _ rfl
  rw [cells22] at g0
  rw [cells22] at g1
  rw [cells22] at g2
  rw [cells23] at g3
  rw [cells24] at g4
  rw [cells5] at g5
  rw [cells5] at g6
  rw [cells4] at g7
  obtain ⟨x0, e0⟩ := get 0 (by omega)
  obtain ⟨x1, e1⟩ := get 1 (by omega)
  obtain ⟨x2, e2⟩ := get 2 (by omega)
  obtain ⟨x3, e3⟩ := get 3 (by omega)
  obtain ⟨x4, e4⟩ := get 4 (by omega)
  obtain ⟨x5, e5⟩ := get 5 (by omega)
  obtain ⟨x6, e6⟩ := get 6 (by omega)
  obtain ⟨x7, e7⟩ := get 7 (by omega)
  rw [e0] at g0
  rw [e1] at g1
  rw [e2] at g2
  rw [e3] at g3
  rw [e4] at g4
  rw [e5] at g5
  rw [e6] at g6
  rw [e7] at g7
  have arr : ∀ (t k o : Nat), Yba.prog.underlying t = some (.array k 5) → ∀ {x : DataW H × List MemPlace}, DataW.trod enc Yba.prog W 0 (fun _ => true) true n t ((cs.toList.drop o).take k) = some x → ∀ i, i < k → natAt cs.toList (o + i) < 256 ∧ cs.toList[o + i]? = some (.int .u8 (natAt cs.toList (o + i) : Nat)) := fun t k o ht x hx i hi => by
    obtain ⟨ys, m, _, _, _, hyl, hy⟩ := DataW.trod_array ht hx
    have := hy i hi
    rw [cells5, Nat.mul_one, sub_at hi, List.getElem?_eq_getElem (by omega)] at this
    exact byte_at this
  have aP := arr 22 6 0 Yba.underlying22 g0
  have aW := arr 22 6 6 Yba.underlying22 g1
  have aH := arr 22 6 12 Yba.underlying22 g2
  have aC := arr 23 3 18 Yba.underlying23 g3
  have bK := byte_at g5
  have bT := byte_at g6
  obtain ⟨mn, hmn, _⟩ := DataW.trod_bool Yba.underlying4 g7
  have m24 : cs.toList[24]? = some (.bool mn) := by
    have : ((cs.toList.drop 24).take 1)[0]? = some (.bool mn) := by rw [hmn]; rfl
    rw [List.getElem?_take, if_pos (by omega), List.getElem?_drop] at this
    simpa using this
  have sel : ∃ (a : Option Addr) (l c : Nat) (S : Nat → Nat), cs.toList[21]? = some (.slice a l c) ∧ ∀ q, q < l → ∃ b o, a = some ⟨b, o, none⟩ ∧ W.cell? ⟨b, o + q, none⟩ = some (.int .u8 (S q : Nat)) := by
    have at21 : ∀ v, (cs.toList.drop 21).take 1 = [v] → cs.toList[21]? = some v := fun v hv => by
      have : ((cs.toList.drop 21).take 1)[0]? = some v := by rw [hv]; rfl
      rw [List.getElem?_take, if_pos (by omega), List.getElem?_drop] at this
      simpa using this
    rcases open_slice1 Yba.underlying24 cells5 g4 with ⟨hc, _⟩ | ⟨x, l, cap, m, k, V, D, Pl, hc, _, hlc, _, hm, _, hV⟩
    · exact ⟨none, 0, 0, fun _ => 0, at21 _ hc, fun q hq => absurd hq (by omega)⟩
    · simp only [if_true] at hm
      have each : ∀ q, q < l → ∃ v : Nat, W.cell? (x.add q) = some (.int .u8 (v : Nat)) := fun q hq => by
        obtain ⟨h1, h2⟩ := hV q (by omega)
        obtain ⟨z, hz, _, hw⟩ := DataW.trod_int Yba.underlying5 h2
        have hb := u8_bounds hw
        simp only [List.cons.injEq, and_true] at hz
        refine ⟨z.toNat, ?_⟩
        rw [h1, hz]
        congr 2
        omega
      obtain ⟨S, hS⟩ := choose_lt each
      refine ⟨some x, l, cap, S, at21 _ hc, fun q hq => ?_⟩
      obtain ⟨b, off, spot⟩ := x
      have h1 := hS q hq
      have hsp : spot = none := by simpa [Addr.add] using World.cell?_spot (hS 0 (by omega))
      subst hsp
      refine ⟨b, off, rfl, ?_⟩
      have e : (⟨b, off, none⟩ : Addr).add q = ⟨b, off + q, none⟩ := by unfold Addr.add; split <;> simp_all
      rw [← e]; exact h1
  obtain ⟨a, l, c, S, m21, hsel⟩ := sel
  refine ⟨fun i => natAt cs.toList (0 + i), fun i => natAt cs.toList (6 + i), fun i => natAt cs.toList (12 + i), fun i => if i < 3 then natAt cs.toList (18 + i) else 0, S, a, l, c, natAt cs.toList 22, natAt cs.toList 23, mn, ?_, bK.1, bT.1, fun i => ?_, hsel⟩
  · apply Array.toList_inj.1
    apply List.ext_getElem?
    intro i
    by_cases hi : i < 25
    · match i, hi with
      | 0, _ => exact (aP 0 (by omega)).2
      | 1, _ => exact (aP 1 (by omega)).2
      | 2, _ => exact (aP 2 (by omega)).2
      | 3, _ => exact (aP 3 (by omega)).2
      | 4, _ => exact (aP 4 (by omega)).2
      | 5, _ => exact (aP 5 (by omega)).2
      | 6, _ => exact (aW 0 (by omega)).2
      | 7, _ => exact (aW 1 (by omega)).2
      | 8, _ => exact (aW 2 (by omega)).2
      | 9, _ => exact (aW 3 (by omega)).2
      | 10, _ => exact (aW 4 (by omega)).2
      | 11, _ => exact (aW 5 (by omega)).2
      | 12, _ => exact (aH 0 (by omega)).2
      | 13, _ => exact (aH 1 (by omega)).2
      | 14, _ => exact (aH 2 (by omega)).2
      | 15, _ => exact (aH 3 (by omega)).2
      | 16, _ => exact (aH 4 (by omega)).2
      | 17, _ => exact (aH 5 (by omega)).2
      | 18, _ => exact (aC 0 (by omega)).2
      | 19, _ => exact (aC 1 (by omega)).2
      | 20, _ => exact (aC 2 (by omega)).2
      | 21, _ => exact m21
      | 22, _ => exact bK.2
      | 23, _ => exact bT.2
      | 24, _ => exact m24
      | n + 25, h => exact absurd h (by omega)
    · rw [List.getElem?_eq_none (by simp; omega), List.getElem?_eq_none (by simp; omega)]
  · by_cases hi : i < 3
    · simp only [hi, if_true]; exact (aC i hi).1
    · simp only [hi, if_false]; omega

set_option maxRecDepth 100000 in
theorem law_long (P W H C : Nat → Nat) (a : Option Addr) (l c K T : Nat) (mn : Bool) (w : World) (hl : 1024 < l) :
    Calls Yba.prog 3 #[.agg (zCells P W H C a l c K T mn)] w fun e w' => e = .returned (.bool true) ∧ Below w.heap.size w w' := by
  have hlI : (1024 : Int) < (l : Nat) := by omega
  go_enter Yba.func3, Yba.ntmps3
  go_wp2
  go_ret
  exact ⟨rfl, (Below.refl _ _).alloc (Nat.le_refl _) _⟩

end Go.Proofs.Ybulkaibe
