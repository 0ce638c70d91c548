/-
  'Rows.LawS1694CPutGroupSaid' PROVED.
-/
import Derived.Test.YbulkaibeOpen
namespace Go.Proofs.Ybulkaibe
open Go.ChangeShapes Go.WideShapes Go.ChangeAt Go.RowKit Go.Deep Kit

set_option maxRecDepth 100000 in
theorem putGroup_proved_lifted (os : Os) (started : os.Started) (H : Type) (enc : TypeId × Value → H) :
    ReturnsInHanded {} Yba.checked os 3 .any (Rows.lawS1694CPutGroupSpec.pre6 enc Yba.prog Yba.f3 Rows.lawS1694CPutGroupRow.domain false) (Rows.lawS1694CPutGroupSpec.post enc Yba.prog Yba.f3 false true false false) := by
  refine returnsInHanded_of_change (C := Yba.checked) own started (by kernel_rfl) Yba.func3
    (ChangeSpec.witness6 (enc := enc) (C := Yba.checked) false ⟨#[], #[.agg (zCells (fun _ => 0) (fun _ => 0) (fun _ => 0) (fun _ => 0) none 0 0 0 0 false)], []⟩ 8 (by kernel_rfl) (by kernel_rfl) (by kernel_rfl) (by kernel_rfl)) ?_
  intro W base args ds gs before hval0 hW _ _
  have hval : ∀ (j : Nat) t v, Yba.f3.params[j]? = some t → args[j]? = some v → Value.okWide Yba.prog W .any base t v := hval0
  have hW' := hW
  obtain ⟨p, q, hA0, hV, rfl, hfz, hnd⟩ := hW
  have hA : DataW.TrodAll enc Yba.prog W 0 (fun _ => true) true Yba.f3.params.toList args.toList ds p := hA0
  rw [Yba.params3] at hA hval
  obtain ⟨v0, vs0, d0, ds0, p0, q0, hargs, rfl, rfl, h0, r0⟩ := trodAll_cons hA
  obtain ⟨rfl, rfl, rfl⟩ := trodAll_nil r0
  obtain rfl : args = #[v0] := by cases args; simp_all
  obtain ⟨rfl, rfl⟩ := trodVars_none hV
  obtain ⟨cs, rfl, hcs⟩ := okWide_struct Yba.underlying26 (hval 0 26 v0 rfl rfl)
  have lt0 : ∀ x ∈ p0, x.block < W.heap.size := by obtain ⟨m, hm⟩ := h0; exact DataW.trod_lt m _ _ _ hm
  obtain ⟨P, Wt, Hr, C, S, a, l, c, K, T, mn, hz, hK, hT, hC, hS⟩ := open_case h0 (by rw [hcs]; exact cells26)
  clear hA0 hval0
  have walk : Calls Yba.prog 3 #[.agg cs] W fun e w' => e = .returned (.bool true) ∧ Below W.heap.size W w' := by
    rw [hz]
    by_cases hl : l ≤ 1024
    · exact law_any P Wt Hr C S a l c K T mn W hl hK hT hC hS
    · exact law_long P Wt Hr C a l c K T mn W (by omega)
  refine walk.mono fun e W' ⟨he, bel⟩ => ?_
  subst he
  exact ⟨_, rfl, _, _, _, [], _, [], hW', trodAll_mk1 (shut_bool Yba.underlying4 _), (trodAll_cons_mk (Below.trod laidOut (by kernel_rfl) (of_decide_eq_true (by kernel_rfl)) h0 bel lt0) trodAll_mk0), rfl, bel.frame _, fun h => by cases h⟩

theorem putGroup_proved : Rows.LawS1694CPutGroupSaid :=
  OpenClaim.holds_of_wide 3 Yba.f3 rfl rfl rfl rfl rfl rfl rfl ⟨rfl, rfl, rfl, rfl, rfl⟩ rfl rfl rfl rfl rfl (by kernel_rfl) Yba.func3 (by kernel_rfl)
    (of_decide_eq_true (by kernel_rfl)) (by unfold Func.isWrapper; first | (rw [if_pos (by decide +kernel)]; kernel_rfl) | (rw [if_neg (by decide +kernel)]; exact ⟨rfl, rfl⟩))
    (fun os started H enc _ => putGroup_proved_lifted os started H enc)
#print axioms putGroup_proved

end Go.Proofs.Ybulkaibe
