/-
  'Rows.LawS1685AModelSaid' PROVED.
-/
import Derived.Test.YbulkahwiOpen
namespace Go.Proofs.Ybulkahwi
open Go.ChangeShapes Go.WideShapes Go.ChangeAt Go.RowKit Go.Deep
open Go.ChangeMaps (open_string shut_string)

set_option maxRecDepth 100000 in
theorem model_proved_lifted (os : Os) (started : os.Started) (H : Type) (enc : TypeId × Value → H) :
    ReturnsInHanded {} Yba.checked os 3 .any (Rows.lawS1685AModelSpec.pre6 enc Yba.prog Yba.f3 Rows.lawS1685AModelRow.domain false) (Rows.lawS1685AModelSpec.post enc Yba.prog Yba.f3 false true false false) := by
  refine returnsInHanded_of_change_sized (C := Yba.checked) own started (by kernel_rfl) Yba.func3
    (ChangeSpec.witness6 (enc := enc) (C := Yba.checked) false ⟨#[], #[.string ByteArray.empty, .slice none 0 0], []⟩ 8 (by kernel_rfl) (by kernel_rfl) (by kernel_rfl) (by kernel_rfl)) ?_
  intro W base args ds gs before hval0 hW _ hsz _
  have hval : ∀ (j : Nat) t v, Yba.f3.params[j]? = some t → args[j]? = some v → Value.okWide Yba.prog W .any base t v := hval0
  have hW' := hW
  obtain ⟨p, q, hA0, hV, rfl, hfz, hnd⟩ := hW
  have hA : DataW.TrodAll enc Yba.prog W 0 (fun _ => true) true Yba.f3.params.toList args.toList ds p := hA0
  have hsz' : (DataW.weightsEach Yba.prog (Yba.f3.params.toList ++ Rows.lawS1685AModelSpec.plain.varTypes Yba.prog) (ds ++ gs)).all (· ≤ reachBytes) = true := hsz
  rw [Yba.params3] at hA hval hsz'
  obtain ⟨v0, v1, d0, d1, p0, p1, rfl, rfl, rfl, h0, h1⟩ := trodAll_two hA
  obtain ⟨rfl, rfl⟩ := trodVars_none hV
  obtain ⟨pre, rfl, rfl, rfl, hpre⟩ := open_string Yba.underlying9 (hval 0 9 v0 rfl rfl) h0
  obtain ⟨a, n, c, rfl⟩ := okWide_slice Yba.underlying22 (hval 1 22 v1 rfl rfl)
  have lt1 : ∀ x ∈ p1, x.block < W.heap.size := by obtain ⟨m, hm⟩ := h1; exact DataW.trod_lt m _ _ _ hm
  have hw : ∀ x ∈ d1.weights Yba.prog 22, x ≤ reachBytes := fun x hx => by
    have := List.all_eq_true.1 hsz' x (by
      show x ∈ (DataW.lit (.string pre.data.toList) : DataW H).weights Yba.prog 9 ++ (d1.weights Yba.prog 22 ++ _)
      exact List.mem_append_right _ (List.mem_append_left _ hx))
    simpa using this
  obtain ⟨ps, vs, M, hna⟩ := open_mods h1 hw
  clear hA0 hval0
  have walk : Calls Yba.prog 3 #[.string pre, .slice a n c] W fun e w' => e = .returned (.bool true) ∧ Below W.heap.size W w' := by
    by_cases hl : n ≤ 1024 ∧ pre.size ≤ 4096
    · exact model_any pre a n c ps vs W hl.1 hl.2 M hna
    · exact model_long pre a n c W (by omega)
  refine walk.mono fun e W' ⟨he, bel⟩ => ?_
  subst he
  exact ⟨_, rfl, _, _, _, [], _, [], hW', trodAll_mk1 (shut_bool Yba.underlying4 _), trodAll_mk2 (shut_string Yba.underlying9 hpre) (Below.trod laidOut (by kernel_rfl) (of_decide_eq_true (by kernel_rfl)) h1 bel lt1), rfl, bel.frame _, fun h => by cases h⟩

theorem model_proved : Rows.LawS1685AModelSaid :=
  OpenClaim.holds_of_wide 3 Yba.f3 rfl rfl rfl rfl rfl rfl rfl ⟨rfl, rfl, rfl, rfl, rfl⟩ rfl rfl rfl rfl rfl (by kernel_rfl) Yba.func3 (by kernel_rfl)
    (of_decide_eq_true (by kernel_rfl)) (by unfold Func.isWrapper; first | (rw [if_pos (by decide +kernel)]; kernel_rfl) | (rw [if_neg (by decide +kernel)]; exact ⟨rfl, rfl⟩))
    (fun os started H enc _ => model_proved_lifted os started H enc)
#print axioms model_proved
end Go.Proofs.Ybulkahwi
