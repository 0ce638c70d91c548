/-
  'Rows.LawS1680CCountsToldSaid' PROVED: the walk, lifted; the told card by the builder from nothing.
-/
import Derived.Test.YbulkahtqFmtRows
import Derived.Test.YbulkahtqFmtCards
import Derived.Test.YbulkahtqFmtCounts
import Derived.ProofKit
import Derived.OpenShut
import Derived.ShutString
import Derived.ChangeOld
import Derived.SliceStrings
import Derived.Stop.Joined
import Derived.Stop.JoinedTold
import Derived.SevenToldRow
namespace Go.Proofs.YbulkahtqFmt
open Go.ChangeShapes Go.WideShapes Go.ChangeAt Go.RowKit Kit

theorem own : ownKnob Ybaf.prog.godebug = none := by kernel_rfl
theorem laidOut : laidOutB Ybaf.pinned.checked.prog = true := by kernel_rfl
theorem cells9 : Ybaf.prog.cellsOf 9 = 1 := by kernel_rfl

/-- A slice of strings that came in, opened. -/
theorem open_strs {H : Type} {enc : TypeId × Value → H} {W : World} {a : Option Addr} {n c : Nat} {d : DataW H} {p : List MemPlace} (h : DataW.Trod enc Ybaf.prog W 0 (fun _ => true) true 33 (.slice a n c) d p) : ∃ ss, Strs W.heap.size W a n ss := by
  obtain ⟨fuel, hf⟩ := h
  rcases open_strings Ybaf.underlying33 Ybaf.underlying9 cells9 hf with ⟨hcs, _⟩ | ⟨x, l, cc, ss, hcs, _, hl, hm, hz, _, hcell, hws⟩
  · simp [Value.cells] at hcs
    obtain ⟨rfl, rfl, rfl⟩ := hcs
    exact ⟨[], rfl, fun h => absurd h (by omega), fun i => by simp⟩
  · simp [Value.cells] at hcs
    obtain ⟨rfl, rfl, rfl⟩ := hcs
    simp only [if_true] at hz
    have hsz : ∀ i, ((ss.take n).getD i ByteArray.empty).size ≤ maxLen := fun i => by
      by_cases hi : i < (ss.take n).length
      · rw [List.getD, List.getElem?_eq_getElem hi]
        exact hws _ (List.mem_of_mem_take (List.getElem_mem hi))
      · rw [List.getD, List.getElem?_eq_none (by omega)]
        exact Nat.zero_le _
    refine ⟨ss.take n, by rw [List.length_take]; omega, fun hn => ?_, hsz⟩
    obtain ⟨b, off, spot⟩ := x
    have hs : spot = none := by simpa [Addr.add] using World.cell?_spot (hcell 0 (by omega))
    subst hs
    have hc : ∀ i, i < n → W.cell? ⟨b, off + i, none⟩ = some (.string ((ss.take n).getD i ByteArray.empty)) := fun i hi => by
      have := hcell i (by omega)
      rw [add_plain] at this
      rw [this, List.getD, List.getD, List.getElem?_take_of_lt hi]
    exact ⟨b, off, rfl, cell_lt (hc 0 hn), hc⟩

set_option maxRecDepth 100000 in
set_option maxHeartbeats 1600000 in
theorem counts_lifted (os : Os) (started : os.Started) (H : Type) (enc : TypeId × Value → H) :
    ReturnsInTold none {} Ybaf.checked os 5 .any Input.okWide ((OpenSpec.ofChange Rows.lawS1680CCountsSpec).preRow enc Ybaf.prog Ybaf.f5 [] false []) (fun F => ((OpenSpec.ofChange Rows.lawS1680CCountsSpec).at F).post enc Ybaf.prog Ybaf.f5 false true false false) (aloneAtReturn Ybaf.prog) nothingAlways := by
  refine returnsInTold_of_row (C := Ybaf.checked) (s := OpenSpec.ofChange Rows.lawS1680CCountsSpec) (by kernel_rfl) own started (by kernel_rfl) Ybaf.func5
    (OpenSpec.witness_stopped (enc := enc) (C := Ybaf.checked) false ⟨#[], #[.slice none 0 0, .slice none 0 0, .int .u64 0, .bool false], []⟩ 8 (by kernel_rfl) (by kernel_rfl) (by kernel_rfl) (by kernel_rfl)) ?_
  intro F W base args ds gs before _ hF hval0 hW _ _ _ _ _
  have hval : ∀ (j : Nat) t v, Ybaf.f5.params[j]? = some t → args[j]? = some v → Value.okWide Ybaf.prog W .any base t v := hval0
  have hW' := hW
  obtain ⟨p, q, hA0, hV, rfl, hfz, hnd⟩ := hW
  have hA : DataW.TrodAll enc Ybaf.prog W 0 (fun _ => true) true Ybaf.f5.params.toList args.toList ds p := hA0
  rw [Ybaf.params5] at hA hval
  obtain ⟨v0, v1, v2, v3, d0, d1, d2, d3, p0, p1, p2, p3, rfl, rfl, rfl, h0, h1, h2, h3⟩ := trodAll_four hA
  obtain ⟨rfl, rfl⟩ := trodVars_none hV
  obtain ⟨a0, l0, c0, rfl⟩ := okWide_slice Ybaf.underlying33 (hval 0 33 v0 rfl rfl)
  obtain ⟨a1, l1, c1, rfl⟩ := okWide_slice Ybaf.underlying33 (hval 1 33 v1 rfl rfl)
  obtain ⟨seed, rfl, rfl, rfl, ws⟩ := open_int Ybaf.underlying31 (hval 2 31 v2 rfl rfl) h2
  obtain ⟨orw, rfl, rfl, rfl⟩ := open_bool Ybaf.underlying4 (hval 3 4 v3 rfl rfl) h3
  have lt0 : ∀ x ∈ p0, x.block < W.heap.size := by obtain ⟨m, hm⟩ := h0; exact DataW.trod_lt m _ _ _ hm
  have lt1 : ∀ x ∈ p1, x.block < W.heap.size := by obtain ⟨m, hm⟩ := h1; exact DataW.trod_lt m _ _ _ hm
  obtain ⟨ss, S0⟩ := open_strs h0
  obtain ⟨ks, S1⟩ := open_strs h1
  clear hA0 hval0
  have walk : Calls Ybaf.prog 5 #[.slice a0 l0 c0, .slice a1 l1 c1, .int .u64 seed, .bool orw] W fun e w' => e = .returned (.bool true) ∧ Below W.heap.size W w' := by
    by_cases hl : l0 ≤ 1024 ∧ l1 ≤ 1024
    · exact counts_any a0 a1 l0 c0 l1 c1 ss ks seed orw W hl.1 hl.2 S0 S1
    · exact counts_long a0 a1 l0 c0 l1 c1 seed orw W (by omega)
  refine walk.mono fun e W' ⟨he, bel⟩ => ?_
  subst he
  exact ⟨_, rfl, _, _, _, [], _, [], hW', trodAll_mk1 (shut_bool Ybaf.underlying4 _), trodAll_mk4 (Below.trod laidOut (by kernel_rfl) (of_decide_eq_true (by kernel_rfl)) h0 bel lt0) (Below.trod laidOut (by kernel_rfl) (of_decide_eq_true (by kernel_rfl)) h1 bel lt1) (shut_int Ybaf.underlying31 ws) (shut_bool Ybaf.underlying4 _), rfl, bel.frame _, fun h => by cases h⟩

theorem stopsAre : Ybaf.pinned.checked.prog.stops = ["fmt.errorf", "fmt.Sprintf"] := by kernel_rfl
theorem stopKnobsAre : Ybaf.pinned.checked.prog.stopKnobs = [] := by kernel_rfl
theorem quietAll (os : Os) : Stop.quiet Ybaf.pinned.checked.prog os := by
  intro k hk
  rw [stopKnobsAre] at hk
  cases hk

/-- THE TOLD CARD. -/
theorem counts_proved : Rows.LawS1680CCountsToldSaid :=
  Claim7.holds_of_told_any 5 Ybaf.f5 "fmt.errorf" ["fmt.Sprintf"] [] (true, "b4d487b05fb2f41780e884e0c3feae27aa420140f48e0558089a7d57e99abc4e") true false (by kernel_rfl) rfl rfl rfl laidOut (by kernel_rfl) rfl ⟨rfl, rfl, rfl, rfl, rfl, rfl, rfl⟩ rfl rfl (by kernel_rfl) (by kernel_rfl) Ybaf.func5 (by kernel_rfl)
    (of_decide_eq_true (by kernel_rfl)) (by unfold Func.isWrapper; first | (rw [if_pos (by decide +kernel)]; kernel_rfl) | (rw [if_neg (by decide +kernel)]; exact ⟨rfl, rfl⟩)) stopsAre.symm rfl stopKnobsAre.symm (by kernel_rfl)
    (by kernel_rfl) (by kernel_rfl) (by kernel_rfl) (by kernel_rfl) (by kernel_rfl) (by kernel_rfl) (by kernel_rfl) (by kernel_rfl) (by kernel_rfl) rfl (by kernel_rfl) rfl rfl
    rfl rfl
    rfl (by kernel_rfl) (by kernel_rfl) (by kernel_rfl) (by decide) (by kernel_rfl)
    (OpenClaim.moreEntering_of (by kernel_rfl) (by kernel_rfl) (by kernel_rfl) (by kernel_rfl) (by kernel_rfl) (by kernel_rfl) (by kernel_rfl) (by kernel_rfl) (by kernel_rfl) (by kernel_rfl))
    ⟨_, WideRow.started_initial, quietAll _⟩
    (fun os started _ H enc _ => counts_lifted os started H enc)

#print axioms counts_proved

end Go.Proofs.YbulkahtqFmt
