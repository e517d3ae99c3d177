/-
  A drawing region of a function, found by its number: so that its walk is a theorem of its own.
-/
import Derived.Test.YbulkxosCFam
import Derived.Deep.RegionLaw
namespace Go.Proofs.Ybulkxos
open Go.RowKit

def findReg (n : Nat) : Code → Option (Array Oper)
  | .region i ops _ => if i = n then some ops else none
  | .seq a b => match findReg n a with | some x => some x | none => findReg n b
  | .cond _ a b => match findReg n a with | some x => some x | none => findReg n b
  | .block _ b => findReg n b
  | .loop b => findReg n b
  | .scope b => findReg n b
  | _ => none

end Go.Proofs.Ybulkxos
