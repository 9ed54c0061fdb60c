/-
  The regions of function 3 by their numbers: each drawn region is walked in a text of its own.
-/
import Derived.Test.Qxb6612705aLawAid
import Derived.Test.Qxb6612705aSend1
import Derived.Deep.RegionLaw
namespace Go.Proofs.Qxb6612705a
open Go.RowKit

/-- The region of the given number within a code. -/
def find (n : Nat) : Code → Option Code
  | .region i ops d => if i == n then some (.region i ops d) else none
  | .seq a b => match find n a with
    | some c => some c
    | none => find n b
  | .cond _ a b => match find n a with
    | some c => some c
    | none => find n b
  | .block _ c => find n c
  | .loop c => find n c
  | .scope c => find n c
  | _ => none

end Go.Proofs.Qxb6612705a
