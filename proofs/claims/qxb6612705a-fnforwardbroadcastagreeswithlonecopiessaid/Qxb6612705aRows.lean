/-
  No cell of these rows narrows 'for every input' (looked for: loops, veiled, ifaces, maps, wideKeys, modest, calm, conditions, laid).
  DERIVED. THE GIVEN ROWS OF THIS SEAT. 4 by the template 'for every input the law returns true; each argument reads behind the call as it read before'; 0 by the template 'total and deterministic' (their statements: Qxb6612705aTotals.lean).
  GIVEN WITH THE SEED: the statements are not yours to turn. If you find one false, say at which input.
  Laid BY PROGRAM, IN A SANDBOX (cutbox-rows.mjs): the forced cells as the released guide's own fill.sh prints them over the translation 1c64969538d8e169… (all of the seat's roots in one cut). By AI agents, Wed Nov 11 2026. No macro, syntax, notation, axiom, sorry.
-/
import Derived.Test.Qxb6612705aChecked
import GoSem.Claim
import GoSem.ClaimJoined
import GoSem.ClaimMapViews
import Derived.JoinedTies
import Derived.KernelRfl
namespace Go.Proofs.Qxb6612705a
/- THE CELL 'sum', in the pinned program and in every row, IS THE sha256 OF THE DUMP (.gsa) THAT Qxb6612705aProg.lean LOADS. Nothing in Lean hashes anything: it is a label: what it is worth is what the hold of that sum in a sandbox is worth. -/
noncomputable def Try.pinned : Pinned := { name := "qxb6612705a", sum := "1c64969538d8e1693f35927fb9515a0f8b919566de681148d55876f083589332", checked := Try.checked }
namespace Rows
def none {H : Type} : Left H := { results := [], args := [] }

/-- 'zzlaws_internal_sim_b1.FnForwardBroadcastAgreesWithLoneCopies': WHATEVER THE INPUT: true; the input reads as it did. -/
def fnForwardBroadcastAgreesWithLoneCopiesSpec : ChangeSpec := { name := "fnForwardBroadcastAgreesWithLoneCopies", fn := fun _ => fun
  | [d1, d2, d3, d4, d5, d6, d7] => { results := [.lit (.bool true)], args := [d1, d2, d3, d4, d5, d6, d7] }
  | _ => none }
def fnForwardBroadcastAgreesWithLoneCopiesRow : OpenClaim := { program := "qxb6612705a", sum := "1c64969538d8e1693f35927fb9515a0f8b919566de681148d55876f083589332", func := "example.com/coheron/coheron/zzlaws_internal_sim_b1.FnForwardBroadcastAgreesWithLoneCopies", spec := "fnForwardBroadcastAgreesWithLoneCopies", inPlace := ["math.Float64bits", "math.Float64frombits"], apart := false }
def FnForwardBroadcastAgreesWithLoneCopiesSaid : Prop := fnForwardBroadcastAgreesWithLoneCopiesRow.holds Try.pinned (OpenSpec.ofChange fnForwardBroadcastAgreesWithLoneCopiesSpec)

/-- ITS FALSE NEIGHBOUR: 'it returns false'. Refute it at one input. -/
def fnForwardBroadcastAgreesWithLoneCopiesWrong : ChangeSpec := { name := "fnForwardBroadcastAgreesWithLoneCopies", fn := fun _ => fun
  | [d1, d2, d3, d4, d5, d6, d7] => { results := [.lit (.bool false)], args := [d1, d2, d3, d4, d5, d6, d7] }
  | _ => none }
def FnForwardBroadcastAgreesWithLoneCopiesWrongFalsely : Prop := fnForwardBroadcastAgreesWithLoneCopiesRow.holds Try.pinned (OpenSpec.ofChange fnForwardBroadcastAgreesWithLoneCopiesWrong)

/-- 'zzlaws_internal_sim_b1.FnUtilisationAfterIdleBroadcast': WHATEVER THE INPUT: true; the input reads as it did. -/
def fnUtilisationAfterIdleBroadcastSpec : ChangeSpec := { name := "fnUtilisationAfterIdleBroadcast", fn := fun _ => fun
  | [d1, d2, d3] => { results := [.lit (.bool true)], args := [d1, d2, d3] }
  | _ => none }
def fnUtilisationAfterIdleBroadcastRow : OpenClaim := { program := "qxb6612705a", sum := "1c64969538d8e1693f35927fb9515a0f8b919566de681148d55876f083589332", func := "example.com/coheron/coheron/zzlaws_internal_sim_b1.FnUtilisationAfterIdleBroadcast", spec := "fnUtilisationAfterIdleBroadcast", inPlace := ["math.Float64bits", "math.Float64frombits"], apart := false }
def FnUtilisationAfterIdleBroadcastSaid : Prop := fnUtilisationAfterIdleBroadcastRow.holds Try.pinned (OpenSpec.ofChange fnUtilisationAfterIdleBroadcastSpec)

/-- ITS FALSE NEIGHBOUR: 'it returns false'. Refute it at one input. -/
def fnUtilisationAfterIdleBroadcastWrong : ChangeSpec := { name := "fnUtilisationAfterIdleBroadcast", fn := fun _ => fun
  | [d1, d2, d3] => { results := [.lit (.bool false)], args := [d1, d2, d3] }
  | _ => none }
def FnUtilisationAfterIdleBroadcastWrongFalsely : Prop := fnUtilisationAfterIdleBroadcastRow.holds Try.pinned (OpenSpec.ofChange fnUtilisationAfterIdleBroadcastWrong)

/-- 'zzlaws_internal_sim_b1.FnNextValueDisjointAcrossProcesses': WHATEVER THE INPUT: true; the input reads as it did. -/
def fnNextValueDisjointAcrossProcessesSpec : ChangeSpec := { name := "fnNextValueDisjointAcrossProcesses", fn := fun _ => fun
  | [d1, d2, d3, d4, d5] => { results := [.lit (.bool true)], args := [d1, d2, d3, d4, d5] }
  | _ => none }
def fnNextValueDisjointAcrossProcessesRow : OpenClaim := { program := "qxb6612705a", sum := "1c64969538d8e1693f35927fb9515a0f8b919566de681148d55876f083589332", func := "example.com/coheron/coheron/zzlaws_internal_sim_b1.FnNextValueDisjointAcrossProcesses", spec := "fnNextValueDisjointAcrossProcesses", apart := false }
def FnNextValueDisjointAcrossProcessesSaid : Prop := fnNextValueDisjointAcrossProcessesRow.holds Try.pinned (OpenSpec.ofChange fnNextValueDisjointAcrossProcessesSpec)

/-- ITS FALSE NEIGHBOUR: 'it returns false'. Refute it at one input. -/
def fnNextValueDisjointAcrossProcessesWrong : ChangeSpec := { name := "fnNextValueDisjointAcrossProcesses", fn := fun _ => fun
  | [d1, d2, d3, d4, d5] => { results := [.lit (.bool false)], args := [d1, d2, d3, d4, d5] }
  | _ => none }
def FnNextValueDisjointAcrossProcessesWrongFalsely : Prop := fnNextValueDisjointAcrossProcessesRow.holds Try.pinned (OpenSpec.ofChange fnNextValueDisjointAcrossProcessesWrong)

/-- 'zzlaws_internal_sim_b1.FnNextValueScript': WHATEVER THE INPUT: true; the input reads as it did. -/
def fnNextValueScriptSpec : ChangeSpec := { name := "fnNextValueScript", fn := fun _ => fun
  | [d1, d2, d3, d4] => { results := [.lit (.bool true)], args := [d1, d2, d3, d4] }
  | _ => none }
def fnNextValueScriptRow : OpenClaim := { program := "qxb6612705a", sum := "1c64969538d8e1693f35927fb9515a0f8b919566de681148d55876f083589332", func := "example.com/coheron/coheron/zzlaws_internal_sim_b1.FnNextValueScript", spec := "fnNextValueScript", apart := false }
def FnNextValueScriptSaid : Prop := fnNextValueScriptRow.holds Try.pinned (OpenSpec.ofChange fnNextValueScriptSpec)

/-- ITS FALSE NEIGHBOUR: 'it returns false'. Refute it at one input. -/
def fnNextValueScriptWrong : ChangeSpec := { name := "fnNextValueScript", fn := fun _ => fun
  | [d1, d2, d3, d4] => { results := [.lit (.bool false)], args := [d1, d2, d3, d4] }
  | _ => none }
def FnNextValueScriptWrongFalsely : Prop := fnNextValueScriptRow.holds Try.pinned (OpenSpec.ofChange fnNextValueScriptWrong)

end Rows
end Go.Proofs.Qxb6612705a
