/-
  'Rows.LawS1677AExactCardSaid' PROVED: the row's statement out of the walk, then the tied card by the builder's call.
-/
import Derived.Test.YbulkahsaDoorRows
import Derived.Test.YbulkahsaDoorTie
import Derived.Test.YbulkahsaDoorCards
import Derived.Test.YbulkahsaDoorLaw
import Derived.ProofKit
import Derived.OpenShut
import Derived.OpenVars
import Derived.LaidMore
import Derived.Lib.LaidTab
import Derived.Stop.LaidErr
import Derived.Stop.Joined
import Derived.SevenTiedAt
namespace Go.Proofs.YbulkahsaDoor
open Go.ChangeShapes Go.WideShapes Go.ChangeAt Go.RowKit

theorem own : ownKnob Ybad.prog.godebug = none := by kernel_rfl
theorem laidOut : laidOutB Ybad.prog = true := by kernel_rfl
theorem tErr : (Ybad.prog.globals[0]?).map (·.type) = some 27 := by kernel_rfl
theorem tTab : (Ybad.prog.globals[1]?).map (·.type) = some 65 := by kernel_rfl
theorem cells3 : Ybad.prog.cellsOf 3 = 1 := by kernel_rfl
theorem cells65 : Ybad.prog.cellsOf 65 = 12 := by kernel_rfl
theorem cells96 : Ybad.prog.cellsOf 96 = 1 := by kernel_rfl
theorem cells9 : Ybad.prog.cellsOf 9 = 1 := by kernel_rfl
/-- The heap that the door's own run leaves meets the condition. -/
theorem door_met (os : Os) (args : Array Value) : laidMetH Ybad.prog Rows.lawS1677AExactRow.laid ((World.doorLaid Ybad.prog 400 os).forCall (fun _ _ => 0) ⟨#[], args, []⟩).memory :=
  laidMetH_of_parts3 (fuel := 8) (laidMet_of_run' 8 (by kernel_rfl) (by kernel_rfl)) (by kernel_rfl) (by kernel_rfl)

/-- What the condition gives the walk. -/
theorem of_laid {W : World} (h : laidMetH Ybad.prog Rows.lawS1677AExactRow.laid W) : ∃ p, W.cell? ⟨0, 0, none⟩ = some (.iface 79 (.pointer (some p))) ∧ Tab W := by
  rw [MakeChecks.laidMetH_plain _ _ _ (by kernel_rfl)] at h
  obtain ⟨a0, s0, hv0, _, _, _⟩ := laid_sentinel (g := 0) h (by kernel_rfl) tErr Ybad.underlying27 (fun u hu => typeName_ptr_named (tp := 79) (nm := "errors.errorString") (by kernel_rfl) (by kernel_rfl) (by decide) u (hu.trans (congrArg some (by decide)))) Ybad.underlying79 Ybad.underlying96 rfl rfl Ybad.underlying9 cells96 cells9
  have ht := Lib.tabIs_of_head (g := 1) (zs := mdays) (by kernel_rfl) tTab Ybad.underlying65 Ybad.underlying3 cells3 cells65 (h.tail)
  exact ⟨a0, by simpa using World.var?_cell (g := 0) (by kernel_rfl) hv0 0, fun i hi => ht.cell (g := 1) (by kernel_rfl) i hi⟩

set_option maxRecDepth 100000 in
theorem lifted (os : Os) (started : os.Started) (H : Type) (enc : TypeId × Value → H) :
    ReturnsInHanded {} Ybad.checked os 3 .any (fun w args => (Rows.lawS1677AExactSpec.pre enc Ybad.prog Ybad.f3 [] false w args ∧ laidMetH Ybad.prog Rows.lawS1677AExactRow.laid w) ∧ sizedMet enc Ybad.prog Ybad.f3 (OpenSpec.ofChange Rows.lawS1677AExactSpec) false w args)
      (Rows.lawS1677AExactSpec.post enc Ybad.prog Ybad.f3 false true false false) := by
  refine returnsInHanded_of_change_and (C := Ybad.checked) (X := fun w _ => laidMetH Ybad.prog Rows.lawS1677AExactRow.laid w) (fun _ _ _ hh h => h.of_heap hh) own started (by kernel_rfl) Ybad.func3
    (ChangeSpec.witness_shaped (enc := enc) (C := Ybad.checked) (os := os) (X := fun w _ => laidMetH Ybad.prog Rows.lawS1677AExactRow.laid w) false (World.doorLaid Ybad.prog 400 os) #[.int .u16 0, .int .u8 0, .int .u8 0, .int .i64 0] 8 rfl (World.shaped_of_RefB (by kernel_rfl) (by kernel_rfl)) (by kernel_rfl) (by kernel_rfl) (by kernel_rfl) (door_met os _)) ?_
  intro W base args ds gs before hval0 hW _ _ hL _
  have hval : ∀ (j : Nat) t v, Ybad.f3.params[j]? = some t → args[j]? = some v → Value.okWide Ybad.prog W .any base t v := hval0
  have hW' := hW
  obtain ⟨p, q, hA0, hV, rfl, hfz, hnd⟩ := hW
  have hA : DataW.TrodAll enc Ybad.prog W 0 (fun _ => true) true Ybad.f3.params.toList args.toList ds p := hA0
  rw [Ybad.params3] at hA hval
  obtain ⟨v0, v1, v2, v3, d0, d1, d2, d3, p0, p1, p2, p3, rfl, rfl, rfl, h0, h1, h2, h3⟩ := trodAll_four hA
  obtain ⟨y, rfl, rfl, rfl, wy⟩ := open_int Ybad.underlying22 (hval 0 22 v0 rfl rfl) h0
  obtain ⟨m, rfl, rfl, rfl, wm⟩ := open_int Ybad.underlying5 (hval 1 5 v1 rfl rfl) h1
  obtain ⟨d, rfl, rfl, rfl, wd⟩ := open_int Ybad.underlying5 (hval 2 5 v2 rfl rfl) h2
  obtain ⟨n, rfl, rfl, rfl, wn⟩ := open_int Ybad.underlying2 (hval 3 2 v3 rfl rfl) h3
  obtain ⟨pe, hE, ht⟩ := of_laid hL
  clear hA0 hval0
  have by_ := bounds_u16 wy
  have bm := bounds_u8 wm
  have bd := bounds_u8 wd
  have bn := bounds_i64 wn
  refine (law_any y m d n pe W hE ht by_.1 by_.2 bm.1 bm.2 bd.1 bd.2 bn.1 bn.2).mono fun e W' ⟨he, bel⟩ => ?_
  subst he
  match gs, hV with
  | [g0, g1], hV =>
    exact ⟨_, rfl, _, _, _, [], [], q, hW', trodAll_mk1 (shut_bool Ybad.underlying4 _), trodAll_mk4 (shut_int Ybad.underlying22 wy) (shut_int Ybad.underlying5 wm) (shut_int Ybad.underlying5 wd) (shut_int Ybad.underlying2 wn), Below.trodVars laidOut bel (by kernel_rfl) hV, bel.frame _, fun h => by cases h⟩
  | [], hV => exact hV.elim
  | [_], hV => obtain ⟨_, _, _, _, _, _, _, _, _, _, h, _⟩ := hV; exact h.elim
  | _ :: _ :: _ :: _, hV => obtain ⟨_, _, _, _, _, _, _, _, _, _, ⟨_, _, _, _, _, _, _, _, _, _, h, _⟩, _⟩ := hV; exact h.elim

/-- THE ROW. -/
theorem row_holds : Rows.LawS1677AExactSaid :=
  OpenClaim.holds_of_wide 3 Ybad.f3 rfl rfl rfl rfl rfl rfl rfl ⟨rfl, rfl, rfl, rfl, rfl⟩ rfl rfl rfl rfl rfl (by kernel_rfl) Ybad.func3 (by kernel_rfl)
    (of_decide_eq_true (by kernel_rfl)) (by unfold Func.isWrapper; first | (rw [if_pos (by decide +kernel)]; kernel_rfl) | (rw [if_neg (by decide +kernel)]; exact ⟨rfl, rfl⟩))
    (fun os started H enc _ => lifted os started H enc)

/-- THE TIED CARD. -/
theorem card_holds : Rows.LawS1677AExactCardSaid :=
  Claim7.holds_tied_plain_at .later [] [.sentinel, .data] true (true, "d0a30e478fe065ff85d215be7086d593138c22c695ce431552a89a1171a5075d") true
    row_holds (fun _ h => by cases h) (by kernel_rfl) (fun _ h => by cases h) lawS1677AExact_row_tie rfl ⟨rfl, rfl⟩ (by kernel_rfl) rfl
    (fun f fn hf hfn => by
      obtain rfl : f = 3 := Option.some.inj ((show Ybad.prog.funcNamed Rows.lawS1677AExactRow.func = some 3 by kernel_rfl).symm.trans hf) |>.symm
      obtain rfl : fn = Ybad.f3 := (Option.some.inj (Ybad.func3.symm.trans hfn)).symm
      exact ⟨by kernel_rfl, fun j t ht => by
        rw [Ybad.params3] at ht
        have hm : t ∈ [22, 5, 5, 2] := by simpa using Array.mem_of_getElem? ht
        have hall : ([22, 5, 5, 2].all fun u => !Ybad.prog.wantsStandIn u) = true := by kernel_rfl
        exact (show Ybad.prog.wantsStandIn t = false by simpa using List.all_eq_true.1 hall t hm)⟩)
    (by kernel_rfl)
#print axioms card_holds

end Go.Proofs.YbulkahsaDoor
