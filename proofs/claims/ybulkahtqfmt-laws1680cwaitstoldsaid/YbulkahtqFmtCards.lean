/-
  DERIVED. GIVEN WITH THE SEED: THE CARDS: each row of YbulkahtqFmtRows.lean that lists a variable, with what it lists TIED to the program's text (the seventh form; the later family's looks); each row that meets fmt, with fmt's text TOLD by the authors' own Lean function (tested against real Go, not proved from fmt's source: count such statements apart). THE CARD IS WHAT COUNTS. Prove the row's statement (the work); the ties are given (YbulkahtqFmtTie.lean); close each card by the builder's one call (the guide's Derived/Test/ToyasCard.lean, 'card_holds'). Laid BY PROGRAM, IN A SANDBOX (cutbox-door.mjs). By AI agents, Wed Nov 11 2026. No macro, syntax, notation, axiom, sorry.
-/
import Derived.Test.YbulkahtqFmtRows
import GoSem.ClaimSeven
namespace Go.Proofs.YbulkahtqFmt
namespace Rows

/-- THE TOLD AND TIED CARD OF 'knotwise.LawS1680BModel'. -/
def lawS1680BModelCard : Claim7 := { stood := { row := lawS1680BModelRow, standIns := [], harness := (true, "b4d487b05fb2f41780e884e0c3feae27aa420140f48e0558089a7d57e99abc4e"), looks := true }, told := true, laidByText := true, laidKinds := [.data, .data, .data, .sentinel, .sentinel], laidTests := true, laidLooks := .later, goes := false }
def LawS1680BModelToldSaid : Prop := Claim7.holds Ybaf.pinned (.plain (OpenSpec.ofChange lawS1680BModelSpec)) lawS1680BModelCard
/-- ITS FALSE NEIGHBOUR. Refute it at one input. -/
def LawS1680BModelToldWrongFalsely : Prop := Claim7.holds Ybaf.pinned (.plain (OpenSpec.ofChange lawS1680BModelWrong)) lawS1680BModelCard

/-- THE TOLD AND TIED CARD OF 'knotwise.LawS1680BKOf'. -/
def lawS1680BKOfCard : Claim7 := { stood := { row := lawS1680BKOfRow, standIns := [], harness := (true, "b4d487b05fb2f41780e884e0c3feae27aa420140f48e0558089a7d57e99abc4e"), looks := true }, told := true, laidByText := true, laidKinds := [.data, .data, .data, .sentinel, .sentinel], laidTests := true, laidLooks := .later, goes := false }
def LawS1680BKOfToldSaid : Prop := Claim7.holds Ybaf.pinned (.plain (OpenSpec.ofChange lawS1680BKOfSpec)) lawS1680BKOfCard
/-- ITS FALSE NEIGHBOUR. Refute it at one input. -/
def LawS1680BKOfToldWrongFalsely : Prop := Claim7.holds Ybaf.pinned (.plain (OpenSpec.ofChange lawS1680BKOfWrong)) lawS1680BKOfCard

/-- THE TOLD CARD OF 'simulate.LawS1680CCounts'. -/
def lawS1680CCountsCard : Claim7 := { stood := { row := lawS1680CCountsRow, standIns := [], harness := (true, "b4d487b05fb2f41780e884e0c3feae27aa420140f48e0558089a7d57e99abc4e"), looks := true }, told := true, goes := false }
def LawS1680CCountsToldSaid : Prop := Claim7.holds Ybaf.pinned (.plain (OpenSpec.ofChange lawS1680CCountsSpec)) lawS1680CCountsCard
/-- ITS FALSE NEIGHBOUR. Refute it at one input. -/
def LawS1680CCountsToldWrongFalsely : Prop := Claim7.holds Ybaf.pinned (.plain (OpenSpec.ofChange lawS1680CCountsWrong)) lawS1680CCountsCard

/-- THE TOLD CARD OF 'simulate.LawS1680CWaits'. -/
def lawS1680CWaitsCard : Claim7 := { stood := { row := lawS1680CWaitsRow, standIns := [], harness := (true, "b4d487b05fb2f41780e884e0c3feae27aa420140f48e0558089a7d57e99abc4e"), looks := true }, told := true, goes := false }
def LawS1680CWaitsToldSaid : Prop := Claim7.holds Ybaf.pinned (.plain (OpenSpec.ofChange lawS1680CWaitsSpec)) lawS1680CWaitsCard
/-- ITS FALSE NEIGHBOUR. Refute it at one input. -/
def LawS1680CWaitsToldWrongFalsely : Prop := Claim7.holds Ybaf.pinned (.plain (OpenSpec.ofChange lawS1680CWaitsWrong)) lawS1680CWaitsCard
end Rows
end Go.Proofs.YbulkahtqFmt
