/-
  DERIVED. GIVEN WITH THE SEED: THE CARDS: each row of YbulkahsaDoorRows.lean that lists a variable, with what it lists TIED to the program's text (the seventh form; the later family's looks); each row that meets fmt, with fmt's text TOLD by the authors' own Lean function (tested against real Go, not proved from fmt's source: count such statements apart). THE CARD IS WHAT COUNTS. Prove the row's statement (the work); the ties are given (YbulkahsaDoorTie.lean); close each card by the builder's one call (the guide's Derived/Test/ToyasCard.lean, 'card_holds'). Laid BY PROGRAM, IN A SANDBOX (cutbox-door.mjs). By AI agents, Wed Nov 11 2026. No macro, syntax, notation, axiom, sorry.
-/
import Derived.Test.YbulkahsaDoorRows
import GoSem.ClaimSeven
namespace Go.Proofs.YbulkahsaDoor
namespace Rows

/-- THE TIED CARD OF 'spanwise.LawS1677AExact'. -/
def lawS1677AExactCard : Claim7 := { stood := { row := lawS1677AExactRow, standIns := [], harness := (true, "d0a30e478fe065ff85d215be7086d593138c22c695ce431552a89a1171a5075d"), looks := true }, kinds := [], alts := [], laidByText := true, laidKinds := [.sentinel, .data], laidTests := true, laidLooks := .later }
def LawS1677AExactCardSaid : Prop := Claim7.holds Ybad.pinned (.plain (OpenSpec.ofChange lawS1677AExactSpec)) lawS1677AExactCard

/-- THE TIED CARD OF 'spanwise.LawS1677ARoundTrip'. -/
def lawS1677ARoundTripCard : Claim7 := { stood := { row := lawS1677ARoundTripRow, standIns := [], harness := (true, "d0a30e478fe065ff85d215be7086d593138c22c695ce431552a89a1171a5075d"), looks := true }, kinds := [], alts := [], laidByText := true, laidKinds := [.sentinel, .data], laidTests := true, laidLooks := .later }
def LawS1677ARoundTripCardSaid : Prop := Claim7.holds Ybad.pinned (.plain (OpenSpec.ofChange lawS1677ARoundTripSpec)) lawS1677ARoundTripCard

/-- THE TIED CARD OF 'spanwise.LawS1677CModel'. -/
def lawS1677CModelCard : Claim7 := { stood := { row := lawS1677CModelRow, standIns := [], harness := (true, "d0a30e478fe065ff85d215be7086d593138c22c695ce431552a89a1171a5075d"), looks := true }, kinds := [], alts := [], laidByText := true, laidKinds := [.data, .pinned], laidTests := true, laidLooks := .later }
def LawS1677CModelCardSaid : Prop := Claim7.holds Ybad.pinned (.plain (OpenSpec.ofChange lawS1677CModelSpec)) lawS1677CModelCard

/-- THE TIED CARD OF 'spanwise.LawS1677CBuilt'. -/
def lawS1677CBuiltCard : Claim7 := { stood := { row := lawS1677CBuiltRow, standIns := [], harness := (true, "d0a30e478fe065ff85d215be7086d593138c22c695ce431552a89a1171a5075d"), looks := true }, kinds := [], alts := [], laidByText := true, laidKinds := [.data, .pinned], laidTests := true, laidLooks := .later }
def LawS1677CBuiltCardSaid : Prop := Claim7.holds Ybad.pinned (.plain (OpenSpec.ofChange lawS1677CBuiltSpec)) lawS1677CBuiltCard
end Rows
end Go.Proofs.YbulkahsaDoor
