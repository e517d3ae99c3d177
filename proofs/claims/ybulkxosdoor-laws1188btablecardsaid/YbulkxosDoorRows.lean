/-
  NARROWER THAN 'FOR EVERY INPUT', by the rows' own cells (each row's printed sentence says how): LawS1188BTable: laid · LawS1188BRoundTrip: laid.
  DERIVED. THE GIVEN ROWS OF THIS SEAT. 2 by the template 'for every input the law returns true; each argument reads behind the call as it read before'; 0 by the template 'total and deterministic' (their statements: YbulkxosDoorTotals.lean).
  GIVEN WITH THE SEED: the statements are not yours to turn. If you find one false, say at which input.
  Laid BY PROGRAM, IN A SANDBOX (cutbox-rows.mjs): the forced cells as the released guide's own fill.sh prints them over the translation da2f65701716c2b4… (all of the seat's roots in one cut). By AI agents, Wed Nov 11 2026. No macro, syntax, notation, axiom, sorry.
-/
import Derived.Test.YbulkxosDoorChecked
import GoSem.Claim
import GoSem.ClaimJoined
import GoSem.ClaimMapViews
import Derived.JoinedTies
import Derived.KernelRfl
namespace Go.Proofs.YbulkxosDoor
/- THE CELL 'sum', in the pinned program and in every row, IS THE sha256 OF THE DUMP (.gsa) THAT YbulkxosDoorProg.lean LOADS. Nothing in Lean hashes anything: it is a label: what it is worth is what the hold of that sum in a sandbox is worth. -/
noncomputable def Ybad.pinned : Pinned := { name := "ybulkxosdoor", sum := "da2f65701716c2b4641d02c4fcaccb1584f0a1ccf133a268ee5351f542a6577b", checked := Ybad.checked }
namespace Rows
def none {H : Type} : Left H := { results := [], args := [] }

/- WHAT THE LISTED PACKAGE-LEVEL VARIABLES READ AS WHEN THE CALL BEGINS. Each datum BY PROGRAM (the guide's laid-datum.mjs) off the statement by which the dump's own 'gosem.cut.vars' lays the variable. In a bare row this is a premise. The card (YbulkxosDoorCards.lean) ties it to the program's text. -/
def laid_example_com_interlace_interlace_schedule_kinds {H : Type} : DataW H := .agg [.agg [.nil, .lit (.bool false), .lit (.bool false), .lit (.int .u8 0)], .agg [.slice [.lit (.string [114])] [], .lit (.bool true), .lit (.bool false), .lit (.int .u8 1)], .agg [.slice [.lit (.string [119])] [], .lit (.bool true), .lit (.bool false), .lit (.int .u8 2)], .agg [.slice [.lit (.string [99])] [], .lit (.bool false), .lit (.bool false), .lit (.int .u8 0)], .agg [.slice [.lit (.string [97])] [], .lit (.bool false), .lit (.bool false), .lit (.int .u8 0)], .agg [.slice [.lit (.string [115, 108])] [], .lit (.bool true), .lit (.bool true), .lit (.int .u8 1)], .agg [.slice [.lit (.string [120, 108]), .lit (.string [108])] [], .lit (.bool true), .lit (.bool true), .lit (.int .u8 2)], .agg [.slice [.lit (.string [105, 115, 108])] [], .lit (.bool true), .lit (.bool true), .lit (.int .u8 3)], .agg [.slice [.lit (.string [105, 120, 108])] [], .lit (.bool true), .lit (.bool true), .lit (.int .u8 4)], .agg [.slice [.lit (.string [115, 105, 120, 108])] [], .lit (.bool true), .lit (.bool true), .lit (.int .u8 5)], .agg [.slice [.lit (.string [117, 108])] [], .lit (.bool true), .lit (.bool true), .lit (.int .u8 6)], .agg [.slice [.lit (.string [117])] [], .lit (.bool true), .lit (.bool false), .lit (.int .u8 0)]]

/-- 'schedule.LawS1188BTable': WHATEVER THE INPUT: true; the input reads as it did. -/
def lawS1188BTableSpec : ChangeSpec := { name := "lawS1188BTable", vars := ["example.com/interlace/interlace/schedule.kinds"], fn := fun _ => fun
  | [d, g1] => { results := [.lit (.bool true)], args := [d], vars := [g1] }
  | _ => none }
def lawS1188BTableRow : OpenClaim := { program := "ybulkxosdoor", sum := "da2f65701716c2b4641d02c4fcaccb1584f0a1ccf133a268ee5351f542a6577b", func := "example.com/interlace/interlace/schedule.LawS1188BTable", spec := "lawS1188BTable", named := ["example.com/interlace/interlace/schedule.kinds"], apart := false, laid := [("example.com/interlace/interlace/schedule.kinds", laid_example_com_interlace_interlace_schedule_kinds)] }
def LawS1188BTableSaid : Prop := lawS1188BTableRow.holds Ybad.pinned (OpenSpec.ofChange lawS1188BTableSpec)

/-- ITS FALSE NEIGHBOUR: 'it returns false'. Refute it at one input. -/
def lawS1188BTableWrong : ChangeSpec := { name := "lawS1188BTable", vars := ["example.com/interlace/interlace/schedule.kinds"], fn := fun _ => fun
  | [d, g1] => { results := [.lit (.bool false)], args := [d], vars := [g1] }
  | _ => none }
def LawS1188BTableWrongFalsely : Prop := lawS1188BTableRow.holds Ybad.pinned (OpenSpec.ofChange lawS1188BTableWrong)

/-- 'schedule.LawS1188BRoundTrip': WHATEVER THE INPUT: true; the input reads as it did. -/
def lawS1188BRoundTripSpec : ChangeSpec := { name := "lawS1188BRoundTrip", vars := ["example.com/interlace/interlace/schedule.kinds"], fn := fun _ => fun
  | [d1, d2, g1] => { results := [.lit (.bool true)], args := [d1, d2], vars := [g1] }
  | _ => none }
def lawS1188BRoundTripRow : OpenClaim := { program := "ybulkxosdoor", sum := "da2f65701716c2b4641d02c4fcaccb1584f0a1ccf133a268ee5351f542a6577b", func := "example.com/interlace/interlace/schedule.LawS1188BRoundTrip", spec := "lawS1188BRoundTrip", named := ["example.com/interlace/interlace/schedule.kinds"], apart := false, laid := [("example.com/interlace/interlace/schedule.kinds", laid_example_com_interlace_interlace_schedule_kinds)] }
def LawS1188BRoundTripSaid : Prop := lawS1188BRoundTripRow.holds Ybad.pinned (OpenSpec.ofChange lawS1188BRoundTripSpec)

/-- ITS FALSE NEIGHBOUR: 'it returns false'. Refute it at one input. -/
def lawS1188BRoundTripWrong : ChangeSpec := { name := "lawS1188BRoundTrip", vars := ["example.com/interlace/interlace/schedule.kinds"], fn := fun _ => fun
  | [d1, d2, g1] => { results := [.lit (.bool false)], args := [d1, d2], vars := [g1] }
  | _ => none }
def LawS1188BRoundTripWrongFalsely : Prop := lawS1188BRoundTripRow.holds Ybad.pinned (OpenSpec.ofChange lawS1188BRoundTripWrong)

end Rows
end Go.Proofs.YbulkxosDoor
