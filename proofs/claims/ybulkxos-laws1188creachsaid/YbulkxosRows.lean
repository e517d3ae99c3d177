/-
  No cell of these rows narrows 'for every input' (looked for: loops, veiled, ifaces, maps, wideKeys, modest, calm, conditions, laid).
  DERIVED. THE GIVEN ROWS OF THIS SEAT. 4 by the template 'for every input the law returns true; each argument reads behind the call as it read before'; 0 by the template 'total and deterministic' (their statements: YbulkxosTotals.lean).
  GIVEN WITH THE SEED: the statements are not yours to turn. If you find one false, say at which input.
  Laid BY PROGRAM, IN A SANDBOX (cutbox-rows.mjs): the forced cells as the released guide's own fill.sh prints them over the translation 2a7e1123cb6c530d… (all of the seat's roots in one cut). By AI agents, Wed Nov 11 2026. No macro, syntax, notation, axiom, sorry.
-/
import Derived.Test.YbulkxosChecked
import GoSem.Claim
import GoSem.ClaimJoined
import GoSem.ClaimMapViews
import Derived.JoinedTies
import Derived.KernelRfl
namespace Go.Proofs.Ybulkxos
/- THE CELL 'sum', in the pinned program and in every row, IS THE sha256 OF THE DUMP (.gsa) THAT YbulkxosProg.lean LOADS. Nothing in Lean hashes anything: it is a label: what it is worth is what the hold of that sum in a sandbox is worth. -/
noncomputable def Yba.pinned : Pinned := { name := "ybulkxos", sum := "2a7e1123cb6c530d226cc193f4748c4b7a348ff1c7663da9338b8d9a3ed05e4f", checked := Yba.checked }
namespace Rows
def none {H : Type} : Left H := { results := [], args := [] }

/-- 'interlace.LawS1188AUnlink': WHATEVER THE INPUT: true; the input reads as it did. -/
def lawS1188AUnlinkSpec : ChangeSpec := { name := "lawS1188AUnlink", fn := fun _ => fun
  | [d1, d2, d3, d4] => { results := [.lit (.bool true)], args := [d1, d2, d3, d4] }
  | _ => none }
def lawS1188AUnlinkRow : OpenClaim := { program := "ybulkxos", sum := "2a7e1123cb6c530d226cc193f4748c4b7a348ff1c7663da9338b8d9a3ed05e4f", func := "example.com/interlace/interlace.LawS1188AUnlink", spec := "lawS1188AUnlink", apart := false }
def LawS1188AUnlinkSaid : Prop := lawS1188AUnlinkRow.holds Yba.pinned (OpenSpec.ofChange lawS1188AUnlinkSpec)

/-- ITS FALSE NEIGHBOUR: 'it returns false'. Refute it at one input. -/
def lawS1188AUnlinkWrong : ChangeSpec := { name := "lawS1188AUnlink", fn := fun _ => fun
  | [d1, d2, d3, d4] => { results := [.lit (.bool false)], args := [d1, d2, d3, d4] }
  | _ => none }
def LawS1188AUnlinkWrongFalsely : Prop := lawS1188AUnlinkRow.holds Yba.pinned (OpenSpec.ofChange lawS1188AUnlinkWrong)

/-- 'interlace.LawS1188ARemoveAll': WHATEVER THE INPUT: true; the input reads as it did. -/
def lawS1188ARemoveAllSpec : ChangeSpec := { name := "lawS1188ARemoveAll", fn := fun _ => fun
  | [d1, d2, d3, d4] => { results := [.lit (.bool true)], args := [d1, d2, d3, d4] }
  | _ => none }
def lawS1188ARemoveAllRow : OpenClaim := { program := "ybulkxos", sum := "2a7e1123cb6c530d226cc193f4748c4b7a348ff1c7663da9338b8d9a3ed05e4f", func := "example.com/interlace/interlace.LawS1188ARemoveAll", spec := "lawS1188ARemoveAll", apart := false }
def LawS1188ARemoveAllSaid : Prop := lawS1188ARemoveAllRow.holds Yba.pinned (OpenSpec.ofChange lawS1188ARemoveAllSpec)

/-- ITS FALSE NEIGHBOUR: 'it returns false'. Refute it at one input. -/
def lawS1188ARemoveAllWrong : ChangeSpec := { name := "lawS1188ARemoveAll", fn := fun _ => fun
  | [d1, d2, d3, d4] => { results := [.lit (.bool false)], args := [d1, d2, d3, d4] }
  | _ => none }
def LawS1188ARemoveAllWrongFalsely : Prop := lawS1188ARemoveAllRow.holds Yba.pinned (OpenSpec.ofChange lawS1188ARemoveAllWrong)

/-- 'schedule.LawS1188CModel': WHATEVER THE INPUT: true; the input reads as it did. -/
def lawS1188CModelSpec : ChangeSpec := { name := "lawS1188CModel", fn := fun _ => fun
  | [d1, d2] => { results := [.lit (.bool true)], args := [d1, d2] }
  | _ => none }
def lawS1188CModelRow : OpenClaim := { program := "ybulkxos", sum := "2a7e1123cb6c530d226cc193f4748c4b7a348ff1c7663da9338b8d9a3ed05e4f", func := "example.com/interlace/interlace/schedule.LawS1188CModel", spec := "lawS1188CModel", unfollowed := true, recurses := true, apart := false }
def LawS1188CModelSaid : Prop := lawS1188CModelRow.holds Yba.pinned (OpenSpec.ofChange lawS1188CModelSpec)

/-- ITS FALSE NEIGHBOUR: 'it returns false'. Refute it at one input. -/
def lawS1188CModelWrong : ChangeSpec := { name := "lawS1188CModel", fn := fun _ => fun
  | [d1, d2] => { results := [.lit (.bool false)], args := [d1, d2] }
  | _ => none }
def LawS1188CModelWrongFalsely : Prop := lawS1188CModelRow.holds Yba.pinned (OpenSpec.ofChange lawS1188CModelWrong)

/-- 'schedule.LawS1188CReach': WHATEVER THE INPUT: true; the input reads as it did. -/
def lawS1188CReachSpec : ChangeSpec := { name := "lawS1188CReach", fn := fun _ => fun
  | [d1, d2] => { results := [.lit (.bool true)], args := [d1, d2] }
  | _ => none }
def lawS1188CReachRow : OpenClaim := { program := "ybulkxos", sum := "2a7e1123cb6c530d226cc193f4748c4b7a348ff1c7663da9338b8d9a3ed05e4f", func := "example.com/interlace/interlace/schedule.LawS1188CReach", spec := "lawS1188CReach", unfollowed := true, recurses := true, apart := false }
def LawS1188CReachSaid : Prop := lawS1188CReachRow.holds Yba.pinned (OpenSpec.ofChange lawS1188CReachSpec)

/-- ITS FALSE NEIGHBOUR: 'it returns false'. Refute it at one input. -/
def lawS1188CReachWrong : ChangeSpec := { name := "lawS1188CReach", fn := fun _ => fun
  | [d1, d2] => { results := [.lit (.bool false)], args := [d1, d2] }
  | _ => none }
def LawS1188CReachWrongFalsely : Prop := lawS1188CReachRow.holds Yba.pinned (OpenSpec.ofChange lawS1188CReachWrong)

end Rows
end Go.Proofs.Ybulkxos
