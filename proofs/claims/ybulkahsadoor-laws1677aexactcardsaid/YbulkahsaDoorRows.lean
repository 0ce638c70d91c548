/-
  NARROWER THAN 'FOR EVERY INPUT', by the rows' own cells (each row's printed sentence says how): LawS1677AExact: ifaces, laid · LawS1677ARoundTrip: ifaces, laid · LawS1677CModel: laid · LawS1677CBuilt: laid.
  DERIVED. THE GIVEN ROWS OF THIS SEAT. 4 by the template 'for every input the law returns true; each argument reads behind the call as it read before'; 0 by the template 'total and deterministic' (their statements: YbulkahsaDoorTotals.lean).
  GIVEN WITH THE SEED: the statements are not yours to turn. If you find one false, say at which input.
  Laid BY PROGRAM, IN A SANDBOX (cutbox-rows.mjs): the forced cells as the released guide's own fill.sh prints them over the translation fb10c5f1b482b860… (all of the seat's roots in one cut). By AI agents, Wed Nov 11 2026. No macro, syntax, notation, axiom, sorry.
-/
import Derived.Test.YbulkahsaDoorChecked
import GoSem.PinnedTables
import GoSem.Claim
import GoSem.ClaimJoined
import GoSem.ClaimMapViews
import Derived.JoinedTies
import Derived.KernelRfl
namespace Go.Proofs.YbulkahsaDoor
/- THE CELL 'sum', in the pinned program and in every row, IS THE sha256 OF THE DUMP (.gsa) THAT YbulkahsaDoorProg.lean LOADS. Nothing in Lean hashes anything: it is a label: what it is worth is what the hold of that sum in a sandbox is worth. -/
noncomputable def Ybad.pinned : Pinned := { name := "ybulkahsadoor", sum := "fb10c5f1b482b86099cedb14f1b2c53ce08441e9062a74de1b157a32d20648fb", checked := Ybad.checked }
namespace Rows
def none {H : Type} : Left H := { results := [], args := [] }

/- WHAT THE LISTED PACKAGE-LEVEL VARIABLES READ AS WHEN THE CALL BEGINS. Each datum BY PROGRAM (the guide's laid-datum.mjs) off the statement by which the dump's own 'gosem.cut.vars' lays the variable. In a bare row this is a premise. The card (YbulkahsaDoorCards.lean) ties it to the program's text. -/
def laid_example_com_spanwise_spanwise_ErrRange {H : Type} : DataW H := .iface "*errors.errorString" (.ptr (.agg [.lit (.string [114, 101, 115, 117, 108, 116, 32, 111, 117, 116, 115, 105, 100, 101, 32, 48, 48, 48, 49, 45, 48, 49, 45, 48, 49, 46, 46, 57, 57, 57, 57, 45, 49, 50, 45, 51, 49])]))
def laid_example_com_spanwise_spanwise_monthDays {H : Type} : DataW H := .agg [.lit (.int .i64 31), .lit (.int .i64 28), .lit (.int .i64 31), .lit (.int .i64 30), .lit (.int .i64 31), .lit (.int .i64 30), .lit (.int .i64 31), .lit (.int .i64 31), .lit (.int .i64 30), .lit (.int .i64 31), .lit (.int .i64 30), .lit (.int .i64 31)]
def laid_unicode_utf8_acceptRanges {H : Type} : DataW H := .agg [.agg [.lit (.int .u8 128), .lit (.int .u8 191)], .agg [.lit (.int .u8 160), .lit (.int .u8 191)], .agg [.lit (.int .u8 128), .lit (.int .u8 159)], .agg [.lit (.int .u8 144), .lit (.int .u8 191)], .agg [.lit (.int .u8 128), .lit (.int .u8 143)], .agg [.lit (.int .u8 0), .lit (.int .u8 0)], .agg [.lit (.int .u8 0), .lit (.int .u8 0)], .agg [.lit (.int .u8 0), .lit (.int .u8 0)], .agg [.lit (.int .u8 0), .lit (.int .u8 0)], .agg [.lit (.int .u8 0), .lit (.int .u8 0)], .agg [.lit (.int .u8 0), .lit (.int .u8 0)], .agg [.lit (.int .u8 0), .lit (.int .u8 0)], .agg [.lit (.int .u8 0), .lit (.int .u8 0)], .agg [.lit (.int .u8 0), .lit (.int .u8 0)], .agg [.lit (.int .u8 0), .lit (.int .u8 0)], .agg [.lit (.int .u8 0), .lit (.int .u8 0)]]
/-- One of Go's own tables, pinned by name: the form's constant. -/
def laid_unicode_utf8_first : DataW Unit := Go.Pinned.utf8First

/-- 'spanwise.LawS1677AExact': WHATEVER THE INPUT: true; the input reads as it did. -/
def lawS1677AExactSpec : ChangeSpec := { name := "lawS1677AExact", vars := ["example.com/spanwise/spanwise.ErrRange", "example.com/spanwise/spanwise.monthDays"], fn := fun _ => fun
  | [d1, d2, d3, d4, g1, g2] => { results := [.lit (.bool true)], args := [d1, d2, d3, d4], vars := [g1, g2] }
  | _ => none }
def lawS1677AExactRow : OpenClaim := { program := "ybulkahsadoor", sum := "fb10c5f1b482b86099cedb14f1b2c53ce08441e9062a74de1b157a32d20648fb", func := "example.com/spanwise/spanwise.LawS1677AExact", spec := "lawS1677AExact", named := ["example.com/spanwise/spanwise.ErrRange", "example.com/spanwise/spanwise.monthDays"], ifaces := true, apart := false, laid := [("example.com/spanwise/spanwise.ErrRange", laid_example_com_spanwise_spanwise_ErrRange), ("example.com/spanwise/spanwise.monthDays", laid_example_com_spanwise_spanwise_monthDays)] }
def LawS1677AExactSaid : Prop := lawS1677AExactRow.holds Ybad.pinned (OpenSpec.ofChange lawS1677AExactSpec)

/-- ITS FALSE NEIGHBOUR: 'it returns false'. Refute it at one input. -/
def lawS1677AExactWrong : ChangeSpec := { name := "lawS1677AExact", vars := ["example.com/spanwise/spanwise.ErrRange", "example.com/spanwise/spanwise.monthDays"], fn := fun _ => fun
  | [d1, d2, d3, d4, g1, g2] => { results := [.lit (.bool false)], args := [d1, d2, d3, d4], vars := [g1, g2] }
  | _ => none }
def LawS1677AExactWrongFalsely : Prop := lawS1677AExactRow.holds Ybad.pinned (OpenSpec.ofChange lawS1677AExactWrong)

/-- 'spanwise.LawS1677ARoundTrip': WHATEVER THE INPUT: true; the input reads as it did. -/
def lawS1677ARoundTripSpec : ChangeSpec := { name := "lawS1677ARoundTrip", vars := ["example.com/spanwise/spanwise.ErrRange", "example.com/spanwise/spanwise.monthDays"], fn := fun _ => fun
  | [d1, d2, d3, d4, g1, g2] => { results := [.lit (.bool true)], args := [d1, d2, d3, d4], vars := [g1, g2] }
  | _ => none }
def lawS1677ARoundTripRow : OpenClaim := { program := "ybulkahsadoor", sum := "fb10c5f1b482b86099cedb14f1b2c53ce08441e9062a74de1b157a32d20648fb", func := "example.com/spanwise/spanwise.LawS1677ARoundTrip", spec := "lawS1677ARoundTrip", named := ["example.com/spanwise/spanwise.ErrRange", "example.com/spanwise/spanwise.monthDays"], ifaces := true, apart := false, laid := [("example.com/spanwise/spanwise.ErrRange", laid_example_com_spanwise_spanwise_ErrRange), ("example.com/spanwise/spanwise.monthDays", laid_example_com_spanwise_spanwise_monthDays)] }
def LawS1677ARoundTripSaid : Prop := lawS1677ARoundTripRow.holds Ybad.pinned (OpenSpec.ofChange lawS1677ARoundTripSpec)

/-- ITS FALSE NEIGHBOUR: 'it returns false'. Refute it at one input. -/
def lawS1677ARoundTripWrong : ChangeSpec := { name := "lawS1677ARoundTrip", vars := ["example.com/spanwise/spanwise.ErrRange", "example.com/spanwise/spanwise.monthDays"], fn := fun _ => fun
  | [d1, d2, d3, d4, g1, g2] => { results := [.lit (.bool false)], args := [d1, d2, d3, d4], vars := [g1, g2] }
  | _ => none }
def LawS1677ARoundTripWrongFalsely : Prop := lawS1677ARoundTripRow.holds Ybad.pinned (OpenSpec.ofChange lawS1677ARoundTripWrong)

/-- 'spanwise.LawS1677CModel': WHATEVER THE INPUT: true; the input reads as it did. -/
def lawS1677CModelSpec : ChangeSpec := { name := "lawS1677CModel", fn := fun _ => fun
  | [d] => { results := [.lit (.bool true)], args := [d] }
  | _ => none }
def lawS1677CModelRow : OpenClaim := { program := "ybulkahsadoor", sum := "fb10c5f1b482b86099cedb14f1b2c53ce08441e9062a74de1b157a32d20648fb", func := "example.com/spanwise/spanwise.LawS1677CModel", spec := "lawS1677CModel", inPlace := ["internal/bytealg.IndexByteString", "internal/bytealg.IndexString"], named := ["unicode/utf8.first", "unicode/utf8.acceptRanges", "internal/bytealg.MaxLen"], apart := false, laid := [("unicode/utf8.acceptRanges", laid_unicode_utf8_acceptRanges), ("unicode/utf8.first", laid_unicode_utf8_first)] }
def LawS1677CModelSaid : Prop := lawS1677CModelRow.holds Ybad.pinned (OpenSpec.ofChange lawS1677CModelSpec)

/-- ITS FALSE NEIGHBOUR: 'it returns false'. Refute it at one input. -/
def lawS1677CModelWrong : ChangeSpec := { name := "lawS1677CModel", fn := fun _ => fun
  | [d] => { results := [.lit (.bool false)], args := [d] }
  | _ => none }
def LawS1677CModelWrongFalsely : Prop := lawS1677CModelRow.holds Ybad.pinned (OpenSpec.ofChange lawS1677CModelWrong)

/-- 'spanwise.LawS1677CBuilt': WHATEVER THE INPUT: true; the input reads as it did. -/
def lawS1677CBuiltSpec : ChangeSpec := { name := "lawS1677CBuilt", fn := fun _ => fun
  | [d1, d2, d3] => { results := [.lit (.bool true)], args := [d1, d2, d3] }
  | _ => none }
def lawS1677CBuiltRow : OpenClaim := { program := "ybulkahsadoor", sum := "fb10c5f1b482b86099cedb14f1b2c53ce08441e9062a74de1b157a32d20648fb", func := "example.com/spanwise/spanwise.LawS1677CBuilt", spec := "lawS1677CBuilt", inPlace := ["internal/abi.NoEscape", "internal/bytealg.IndexByteString", "internal/bytealg.IndexString"], named := ["unicode/utf8.first", "unicode/utf8.acceptRanges", "internal/bytealg.MaxLen"], apart := false, laid := [("unicode/utf8.acceptRanges", laid_unicode_utf8_acceptRanges), ("unicode/utf8.first", laid_unicode_utf8_first)] }
def LawS1677CBuiltSaid : Prop := lawS1677CBuiltRow.holds Ybad.pinned (OpenSpec.ofChange lawS1677CBuiltSpec)

/-- ITS FALSE NEIGHBOUR: 'it returns false'. Refute it at one input. -/
def lawS1677CBuiltWrong : ChangeSpec := { name := "lawS1677CBuilt", fn := fun _ => fun
  | [d1, d2, d3] => { results := [.lit (.bool false)], args := [d1, d2, d3] }
  | _ => none }
def LawS1677CBuiltWrongFalsely : Prop := lawS1677CBuiltRow.holds Ybad.pinned (OpenSpec.ofChange lawS1677CBuiltWrong)

end Rows
end Go.Proofs.YbulkahsaDoor
