/-
  'Rows.LawS1680CWaitsToldSaid' PROVED: the walk, lifted; the told card by the builder from nothing.
-/
import Derived.Test.YbulkahtqFmtRows
import Derived.Test.YbulkahtqFmtCards
import Derived.Test.YbulkahtqFmtLawW
import Derived.ProofKit
import Derived.OpenShut
import Derived.ShutString
import Derived.ChangeOld
import Derived.ChangeSlices
import Derived.Deep.SlicePairs
import Derived.Stop.Joined
import Derived.Stop.JoinedTold
import Derived.SevenToldRow
namespace Go.Proofs.YbulkahtqFmt
open Go.ChangeShapes Go.WideShapes Go.ChangeAt Go.RowKit Kit Go.Deep

theorem own : ownKnob Ybaf.prog.godebug = none := by kernel_rfl
theorem laidOut : laidOutB Ybaf.pinned.checked.prog = true := by kernel_rfl
theorem cells5 : Ybaf.prog.cellsOf 5 = 1 := by kernel_rfl
theorem cells22 : Ybaf.prog.cellsOf 22 = 1 := by kernel_rfl
theorem cells60 : Ybaf.prog.cellsOf 60 = 2 := by kernel_rfl

theorem u8_wf {n : Int} (h : (Lit.int .u8 n).wf = true) : 0 ≤ n ∧ n < 256 := by
  have e1 : IntKind.u8.min = 0 := by decide
  have e2 : IntKind.u8.max = 255 := by decide
  simp [Lit.wf, e1, e2] at h
  omega

/-- The waits that came in, opened. -/
theorem open_waits {H : Type} {enc : TypeId × Value → H} {W : World} {a : Option Addr} {n c : Nat} {d : DataW H} {p : List MemPlace} (h : DataW.Trod enc Ybaf.prog W 0 (fun _ => true) true 58 (.slice a n c) d p) :
    ∃ P aT nT cT tv, Ins W.heap.size W a n P aT nT cT tv := by
  obtain ⟨fuel, hf⟩ := h
  rcases open_slice_pairs Ybaf.underlying58 Ybaf.underlying60 cells60 rfl rfl cells5 cells22 hf with ⟨hcs, _⟩ | ⟨x, l, cc, m, k, V0, V1, D0, D1, P0, P1, hcs, _, hl, hm, hmm, hx, hcell⟩
  · simp [Value.cells] at hcs
    obtain ⟨rfl, rfl, rfl⟩ := hcs
    exact ⟨fun _ => 0, fun _ => none, fun _ => 0, fun _ => 0, fun _ _ => 0, ⟨fun h => absurd h (by omega), fun _ => by omega, fun _ _ => by omega⟩⟩
  · simp [Value.cells] at hcs
    obtain ⟨rfl, rfl, rfl⟩ := hcs
    simp only [if_true] at hmm
    have each : ∀ i, i < n → ∃ q : Nat × Option Addr × Nat × Nat × (Nat → Nat), W.cell? (x.add (i * 2)) = some (.int .u8 (q.1 : Int)) ∧ W.cell? (x.add (i * 2 + 1)) = some (.slice q.2.1 q.2.2.1 q.2.2.2.1) ∧ q.1 < 256 ∧ (∀ j, q.2.2.2.2 j < 256) ∧
        (0 < q.2.2.1 → ∃ b1 off1, q.2.1 = some ⟨b1, off1, none⟩ ∧ b1 < W.heap.size ∧ ∀ j, j < q.2.2.1 → W.cell? ⟨b1, off1 + j, none⟩ = some (.int .u8 (q.2.2.2.2 j : Int))) := by
      intro i hi
      obtain ⟨h0, h1, t0, t1⟩ := hcell i (by omega)
      obtain ⟨z, e0, _, hz⟩ := DataW.trod_int Ybaf.underlying5 t0
      simp only [List.cons.injEq, and_true] at e0
      rw [e0] at h0
      have hzz := u8_wf hz
      have ez : ((z.toNat : Nat) : Int) = z := by omega
      rcases open_ints Ybaf.underlying22 Ybaf.underlying5 cells5 t1 with ⟨e1, _⟩ | ⟨y, len, cap, zs, e1, _, hlc, _, hzl, _, hzc, hzw⟩
      · simp only [List.cons.injEq, and_true] at e1
        rw [e1] at h1
        exact ⟨(z.toNat, none, 0, 0, fun _ => 0), by rw [ez]; exact h0, h1, by omega, fun _ => Nat.zero_lt_succ _, fun h => absurd h (by simp)⟩
      · simp only [List.cons.injEq, and_true] at e1
        rw [e1] at h1
        simp only [if_true] at hzl
        have hw : ∀ j, 0 ≤ zs.getD j 0 ∧ zs.getD j 0 < 256 := fun j => by
          by_cases hj : j < zs.length
          · rw [List.getD, List.getElem?_eq_getElem hj]
            exact u8_wf (hzw _ (List.getElem_mem hj))
          · rw [List.getD, List.getElem?_eq_none (by omega)]
            exact ⟨Int.le_refl 0, by decide⟩
        refine ⟨(z.toNat, some y, len, cap, fun j => (zs.getD j 0).toNat), by rw [ez]; exact h0, h1, by omega, fun j => ?_, fun hpos => ?_⟩
        · have := hw j
          show (zs.getD j 0).toNat < 256
          omega
        · obtain ⟨b1, off1, spot⟩ := y
          replace hpos : 0 < len := hpos
          have hs : spot = none := by simpa [Addr.add] using World.cell?_spot (hzc 0 (by omega))
          subst hs
          have hc : ∀ j, j < len → W.cell? ⟨b1, off1 + j, none⟩ = some (.int .u8 (((zs.getD j 0).toNat : Nat) : Int)) := fun j hj => by
            have := hzc j (by omega)
            rw [add_plain] at this
            rw [this]
            have hwj := hw j
            have : (((zs.getD j 0).toNat : Nat) : Int) = zs.getD j 0 := by omega
            rw [this]
          exact ⟨b1, off1, rfl, cell_lt (hc 0 hpos), hc⟩
    obtain ⟨q, hq⟩ := choose_lt each
    refine ⟨fun i => (q i).1 % 256, fun i => (q i).2.1, fun i => (q i).2.2.1, fun i => (q i).2.2.2.1, fun i j => (q i).2.2.2.2 j % 256, ⟨fun hn => ?_, fun i => by omega, fun i j => by omega⟩⟩
    obtain ⟨b, off, spot⟩ := x
    have hs : spot = none := by simpa [Addr.add] using World.cell?_spot (hq 0 hn).1
    subst hs
    have hc : ∀ i, i < n → W.cell? ⟨b, off + i * 2, none⟩ = some (.int .u8 ((q i).1 : Int)) ∧ W.cell? ⟨b, off + i * 2 + 1, none⟩ = some (.slice (q i).2.1 (q i).2.2.1 (q i).2.2.2.1) := fun i hi => by
      have := hq i hi
      rw [add_plain, add_plain] at this
      exact ⟨this.1, this.2.1⟩
    refine ⟨b, off, rfl, cell_lt (hc 0 hn).1, fun i hi => ?_⟩
    obtain ⟨_, _, g1, g2, g3⟩ := hq i hi
    refine ⟨by rw [(hc i hi).1, Nat.mod_eq_of_lt g1], (hc i hi).2, fun hpos => ?_⟩
    obtain ⟨b1, off1, e1, e2, e3⟩ := g3 hpos
    exact ⟨b1, off1, e1, e2, fun j hj => by rw [e3 j hj, Nat.mod_eq_of_lt (g2 j)]⟩

set_option maxRecDepth 100000 in
set_option maxHeartbeats 1600000 in
theorem waits_lifted (os : Os) (started : os.Started) (H : Type) (enc : TypeId × Value → H) :
    ReturnsInTold none {} Ybaf.checked os 6 .any Input.okWide ((OpenSpec.ofChange Rows.lawS1680CWaitsSpec).preRow enc Ybaf.prog Ybaf.f6 [] false []) (fun F => ((OpenSpec.ofChange Rows.lawS1680CWaitsSpec).at F).post enc Ybaf.prog Ybaf.f6 false true false false) (aloneAtReturn Ybaf.prog) nothingAlways := by
  refine returnsInTold_of_row (C := Ybaf.checked) (s := OpenSpec.ofChange Rows.lawS1680CWaitsSpec) (by kernel_rfl) own started (by kernel_rfl) Ybaf.func6
    (OpenSpec.witness_stopped (enc := enc) (C := Ybaf.checked) false ⟨#[], #[.slice none 0 0, .bool false, .int .u64 0], []⟩ 8 (by kernel_rfl) (by kernel_rfl) (by kernel_rfl) (by kernel_rfl)) ?_
  intro F W base args ds gs before _ hF hval0 hW _ _ _ _ _
  have hval : ∀ (j : Nat) t v, Ybaf.f6.params[j]? = some t → args[j]? = some v → Value.okWide Ybaf.prog W .any base t v := hval0
  have hW' := hW
  obtain ⟨p, q, hA0, hV, rfl, hfz, hnd⟩ := hW
  have hA : DataW.TrodAll enc Ybaf.prog W 0 (fun _ => true) true Ybaf.f6.params.toList args.toList ds p := hA0
  rw [Ybaf.params6] at hA hval
  obtain ⟨v0, v1, v2, d0, d1, d2, p0, p1, p2, rfl, rfl, rfl, h0, h1, h2⟩ := trodAll_three hA
  obtain ⟨rfl, rfl⟩ := trodVars_none hV
  obtain ⟨a0, l0, c0, rfl⟩ := okWide_slice Ybaf.underlying58 (hval 0 58 v0 rfl rfl)
  obtain ⟨orw, rfl, rfl, rfl⟩ := open_bool Ybaf.underlying4 (hval 1 4 v1 rfl rfl) h1
  obtain ⟨seed, rfl, rfl, rfl, ws⟩ := open_int Ybaf.underlying31 (hval 2 31 v2 rfl rfl) h2
  have lt0 : ∀ x ∈ p0, x.block < W.heap.size := by obtain ⟨m, hm⟩ := h0; exact DataW.trod_lt m _ _ _ hm
  obtain ⟨P, aT, nT, cT, tv, hI⟩ := open_waits h0
  clear hA0 hval0
  have walk : Calls Ybaf.prog 6 #[.slice a0 l0 c0, .bool orw, .int .u64 seed] W fun e w' => e = .returned (.bool true) ∧ Below W.heap.size W w' := by
    by_cases hl : l0 ≤ 512
    · exact waits_any a0 l0 c0 seed orw W hl P aT nT cT tv hI
    · exact waits_long a0 l0 c0 seed orw W (by omega)
  refine walk.mono fun e W' ⟨he, bel⟩ => ?_
  subst he
  exact ⟨_, rfl, _, _, _, [], _, [], hW', trodAll_mk1 (shut_bool Ybaf.underlying4 _), trodAll_mk3 (Below.trod laidOut (by kernel_rfl) (of_decide_eq_true (by kernel_rfl)) h0 bel lt0) (shut_bool Ybaf.underlying4 _) (shut_int Ybaf.underlying31 ws), rfl, bel.frame _, fun h => by cases h⟩

theorem stopsAre : Ybaf.pinned.checked.prog.stops = ["fmt.errorf", "fmt.Sprintf"] := by kernel_rfl
theorem stopKnobsAre : Ybaf.pinned.checked.prog.stopKnobs = [] := by kernel_rfl
theorem quietAll (os : Os) : Stop.quiet Ybaf.pinned.checked.prog os := by
  intro k hk
  rw [stopKnobsAre] at hk
  cases hk

/-- THE TOLD CARD. -/
theorem waits_proved : Rows.LawS1680CWaitsToldSaid :=
  Claim7.holds_of_told_any 6 Ybaf.f6 "fmt.errorf" ["fmt.Sprintf"] [] (true, "b4d487b05fb2f41780e884e0c3feae27aa420140f48e0558089a7d57e99abc4e") true false (by kernel_rfl) rfl rfl rfl laidOut (by kernel_rfl) rfl ⟨rfl, rfl, rfl, rfl, rfl, rfl, rfl⟩ rfl rfl (by kernel_rfl) (by kernel_rfl) Ybaf.func6 (by kernel_rfl)
    (of_decide_eq_true (by kernel_rfl)) (by unfold Func.isWrapper; first | (rw [if_pos (by decide +kernel)]; kernel_rfl) | (rw [if_neg (by decide +kernel)]; exact ⟨rfl, rfl⟩)) stopsAre.symm rfl stopKnobsAre.symm (by kernel_rfl)
    (by kernel_rfl) (by kernel_rfl) (by kernel_rfl) (by kernel_rfl) (by kernel_rfl) (by kernel_rfl) (by kernel_rfl) (by kernel_rfl) (by kernel_rfl) rfl (by kernel_rfl) rfl rfl
    rfl rfl
    rfl (by kernel_rfl) (by kernel_rfl) (by kernel_rfl) (by decide) (by kernel_rfl)
    (OpenClaim.moreEntering_of (by kernel_rfl) (by kernel_rfl) (by kernel_rfl) (by kernel_rfl) (by kernel_rfl) (by kernel_rfl) (by kernel_rfl) (by kernel_rfl) (by kernel_rfl) (by kernel_rfl))
    ⟨_, WideRow.started_initial, quietAll _⟩
    (fun os started _ H enc _ => waits_lifted os started H enc)

#print axioms waits_proved

end Go.Proofs.YbulkahtqFmt
