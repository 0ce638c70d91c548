/-
  THE ARGUMENTS OPENED: a slice of modules, each string within the form's reach.
-/
import Derived.Test.YbulkahwiRows
import Derived.Test.YbulkahwiLaws
import Derived.ProofKit
import Derived.OpenShut
import Derived.ShutString
import Derived.ChangeOld
import Derived.SizedLaws
import Derived.Deep.SlicePairs
namespace Go.Proofs.Ybulkahwi
open Go.ChangeShapes Go.WideShapes Go.ChangeAt Go.RowKit Go.Deep
open Go.ChangeMaps (open_string shut_string)

theorem own : ownKnob Yba.prog.godebug = none := by kernel_rfl
theorem laidOut : laidOutB Yba.prog = true := by kernel_rfl
theorem cells9 : Yba.prog.cellsOf 9 = 1 := by kernel_rfl
theorem cells32 : Yba.prog.cellsOf 32 = 2 := by kernel_rfl

theorem mem_weightsAll {H : Type} {P : Program} {e : TypeId} {d : DataW H} {x : Nat} (hx : x ∈ d.weights P e) : ∀ l : List (DataW H), d ∈ l → x ∈ DataW.weightsAll P e l
  | y :: r, h => by
    unfold DataW.weightsAll
    rcases List.mem_cons.1 h with rfl | h
    · exact List.mem_append_left _ hx
    · exact List.mem_append_right _ (mem_weightsAll hx r h)

theorem reach_is : reachBytes = 140737488351232 := by decide

theorem open_mods {H : Type} {enc : TypeId × Value → H} {W : World} {a : Option Addr} {n c : Nat} {d : DataW H} {p : List MemPlace} (h : DataW.Trod enc Yba.prog W 0 (fun _ => true) true 22 (.slice a n c) d p)
    (hw : ∀ x ∈ d.weights Yba.prog 22, x ≤ reachBytes) : ∃ ps vs, MIn W.heap.size W a n ps vs ∧ (a = none → n = 0) := by
  obtain ⟨fuel, hf⟩ := h
  rcases open_slice_pairs Yba.underlying22 Yba.underlying32 cells32 rfl rfl cells9 cells9 hf with ⟨hcs, _⟩ | ⟨x, l, cc, m, k, V0, V1, D0, D1, P0, P1, hcs, _, hl, hm, hmm, hx, hcell⟩
  · simp [Value.cells] at hcs
    obtain ⟨rfl, rfl, rfl⟩ := hcs
    exact ⟨[], [], ⟨rfl, rfl, fun h => absurd h (by omega), fun i => by simp⟩, fun _ => rfl⟩
  · simp [Value.cells] at hcs
    obtain ⟨rfl, rfl, rfl⟩ := hcs
    simp only [if_true] at hmm
    simp only [Prod.mk.injEq] at hx
    have each : ∀ i, i < n → ∃ s v : ByteArray, W.cell? (x.add (i * 2)) = some (.string s) ∧ W.cell? (x.add (i * 2 + 1)) = some (.string v) ∧ s.size ≤ 140737488351232 := by
      intro i hi
      obtain ⟨h0, h1, t0, t1⟩ := hcell i (by omega)
      obtain ⟨s, e0, e1, _⟩ := DataW.trod_string Yba.underlying9 t0
      obtain ⟨v, f0, f1, _⟩ := DataW.trod_string Yba.underlying9 t1
      simp only [List.cons.injEq, and_true] at e0 f0
      rw [e0] at h0
      rw [f0] at h1
      refine ⟨s, v, h0, h1, ?_⟩
      have hin : s.data.toList.length ∈ d.weights Yba.prog 22 := by
        rw [hx.1]
        have e32 : (DataW.agg [D0 i, D1 i] : DataW H).weights Yba.prog 32 = (D0 i).weights Yba.prog 9 ++ ((D1 i).weights Yba.prog 9 ++ []) := by
          simp [DataW.weights, Yba.underlying32, DataW.weightsEach]
        have em : s.data.toList.length ∈ (DataW.agg [D0 i, D1 i] : DataW H).weights Yba.prog 32 := by
          rw [e32]
          have : D0 i = .lit (.string s.data.toList) := congrArg Prod.fst e1
          rw [this]
          simp [DataW.weights]
        have ea := mem_weightsAll em ((List.range n).map fun i => .agg [D0 i, D1 i]) (List.mem_map.2 ⟨i, List.mem_range.2 hi, rfl⟩)
        simp only [DataW.weights, Yba.underlying22]
        exact List.mem_cons_of_mem _ (List.mem_append_left _ ea)
      have := hw _ hin
      rw [reach_is] at this
      simpa using this
    obtain ⟨q, hq⟩ := choose_lt (fun i hi => by
      obtain ⟨s, v, h⟩ := each i hi
      exact ⟨(s, v), h⟩ : ∀ i, i < n → ∃ q : ByteArray × ByteArray, W.cell? (x.add (i * 2)) = some (.string q.1) ∧ W.cell? (x.add (i * 2 + 1)) = some (.string q.2) ∧ q.1.size ≤ 140737488351232)
    have g1 : ∀ i, i < n → ((List.range n).map fun i => (q i).1).getD i ByteArray.empty = (q i).1 := fun i hi => by simp [List.getD, hi]
    have g2 : ∀ i, i < n → ((List.range n).map fun i => (q i).2).getD i ByteArray.empty = (q i).2 := fun i hi => by simp [List.getD, hi]
    refine ⟨(List.range n).map fun i => (q i).1, (List.range n).map fun i => (q i).2, ⟨by simp, by simp, fun hn => ?_, fun i => ?_⟩, fun h => by cases h⟩
    · obtain ⟨b, off, spot⟩ := x
      have hs : spot = none := by simpa [Addr.add] using World.cell?_spot (hq 0 hn).1
      subst hs
      have hc : ∀ i, i < n → W.cell? ⟨b, off + i * 2, none⟩ = some (.string (((List.range n).map fun i => (q i).1).getD i ByteArray.empty)) ∧ W.cell? ⟨b, off + i * 2 + 1, none⟩ = some (.string (((List.range n).map fun i => (q i).2).getD i ByteArray.empty)) := fun i hi => by
        have := hq i hi
        rw [add_plain, add_plain] at this
        rw [g1 i hi, g2 i hi]
        exact ⟨this.1, this.2.1⟩
      exact ⟨b, off, rfl, cell_lt (hc 0 hn).1, hc⟩
    · by_cases hi : i < n
      · rw [g1 i hi]; exact (hq i hi).2.2
      · rw [List.getD, List.getElem?_eq_none (by simp; omega)]; exact Nat.zero_le _

end Go.Proofs.Ybulkahwi
