/-
  NARROWER THAN 'FOR EVERY INPUT', by the rows' own cells (each row's printed sentence says how): FnKeyIndexRoundTrip: laid · FnKeyAdditiveDifferenceIndexed: laid · FnIndexKeyRoundTrip: laid · FnIndexShiftBySteps: laid.
  DERIVED. THE GIVEN ROWS OF THIS SEAT. 4 by the template 'for every input the law returns true; each argument reads behind the call as it read before'; 0 by the template 'total and deterministic' (their statements: Qxb6615140aDoorTotals.lean).
  GIVEN WITH THE SEED: the statements are not yours to turn. If you find one false, say at which input.
  Laid BY PROGRAM, IN A SANDBOX (cutbox-rows.mjs): the forced cells as the released guide's own fill.sh prints them over the translation d60fcd0874fd0e94… (all of the seat's roots in one cut). By AI agents, Wed Nov 11 2026. No macro, syntax, notation, axiom, sorry.
-/
import Derived.Test.Qxb6615140aDoorChecked
import GoSem.Claim
import GoSem.ClaimJoined
import GoSem.ClaimMapViews
import Derived.JoinedTies
import Derived.KernelRfl
namespace Go.Proofs.Qxb6615140aDoor
/- THE CELL 'sum', in the pinned program and in every row, IS THE sha256 OF THE DUMP (.gsa) THAT Qxb6615140aDoorProg.lean LOADS. Nothing in Lean hashes anything: it is a label: what it is worth is what the hold of that sum in a sandbox is worth. -/
noncomputable def Tryd.pinned : Pinned := { name := "qxb6615140adoor", sum := "d60fcd0874fd0e942e01b72727e81bc5c8d7433ce52605992feb7d0dab5325bd", checked := Tryd.checked }
namespace Rows
def none {H : Type} : Left H := { results := [], args := [] }

/- WHAT THE LISTED PACKAGE-LEVEL VARIABLES READ AS WHEN THE CALL BEGINS. Each datum BY PROGRAM (the guide's laid-datum.mjs) off the statement by which the dump's own 'gosem.cut.vars' lays the variable. In a bare row this is a premise. The card (Qxb6615140aDoorCards.lean) ties it to the program's text. -/
def laid_example_com_hivemap_hivemap_internal_sharedtiming_inverse {H : Type} : DataW H := .lit (.int .u64 17428512612931826493)

/-- 'zzlaws_internal_sharedtiming_b1.FnKeyIndexRoundTrip': WHATEVER THE INPUT: true; the input reads as it did. -/
def fnKeyIndexRoundTripSpec : ChangeSpec := { name := "fnKeyIndexRoundTrip", vars := ["example.com/hivemap/hivemap/internal/sharedtiming.inverse"], fn := fun _ => fun
  | [d, g1] => { results := [.lit (.bool true)], args := [d], vars := [g1] }
  | _ => none }
def fnKeyIndexRoundTripRow : OpenClaim := { program := "qxb6615140adoor", sum := "d60fcd0874fd0e942e01b72727e81bc5c8d7433ce52605992feb7d0dab5325bd", func := "example.com/hivemap/hivemap/zzlaws_internal_sharedtiming_b1.FnKeyIndexRoundTrip", spec := "fnKeyIndexRoundTrip", named := ["example.com/hivemap/hivemap/internal/sharedtiming.inverse"], apart := false, laid := [("example.com/hivemap/hivemap/internal/sharedtiming.inverse", laid_example_com_hivemap_hivemap_internal_sharedtiming_inverse)] }
def FnKeyIndexRoundTripSaid : Prop := fnKeyIndexRoundTripRow.holds Tryd.pinned (OpenSpec.ofChange fnKeyIndexRoundTripSpec)

/-- ITS FALSE NEIGHBOUR: 'it returns false'. Refute it at one input. -/
def fnKeyIndexRoundTripWrong : ChangeSpec := { name := "fnKeyIndexRoundTrip", vars := ["example.com/hivemap/hivemap/internal/sharedtiming.inverse"], fn := fun _ => fun
  | [d, g1] => { results := [.lit (.bool false)], args := [d], vars := [g1] }
  | _ => none }
def FnKeyIndexRoundTripWrongFalsely : Prop := fnKeyIndexRoundTripRow.holds Tryd.pinned (OpenSpec.ofChange fnKeyIndexRoundTripWrong)

/-- 'zzlaws_internal_sharedtiming_b1.FnKeyAdditiveDifferenceIndexed': WHATEVER THE INPUT: true; the input reads as it did. -/
def fnKeyAdditiveDifferenceIndexedSpec : ChangeSpec := { name := "fnKeyAdditiveDifferenceIndexed", vars := ["example.com/hivemap/hivemap/internal/sharedtiming.inverse"], fn := fun _ => fun
  | [d1, d2, g1] => { results := [.lit (.bool true)], args := [d1, d2], vars := [g1] }
  | _ => none }
def fnKeyAdditiveDifferenceIndexedRow : OpenClaim := { program := "qxb6615140adoor", sum := "d60fcd0874fd0e942e01b72727e81bc5c8d7433ce52605992feb7d0dab5325bd", func := "example.com/hivemap/hivemap/zzlaws_internal_sharedtiming_b1.FnKeyAdditiveDifferenceIndexed", spec := "fnKeyAdditiveDifferenceIndexed", named := ["example.com/hivemap/hivemap/internal/sharedtiming.inverse"], apart := false, laid := [("example.com/hivemap/hivemap/internal/sharedtiming.inverse", laid_example_com_hivemap_hivemap_internal_sharedtiming_inverse)] }
def FnKeyAdditiveDifferenceIndexedSaid : Prop := fnKeyAdditiveDifferenceIndexedRow.holds Tryd.pinned (OpenSpec.ofChange fnKeyAdditiveDifferenceIndexedSpec)

/-- ITS FALSE NEIGHBOUR: 'it returns false'. Refute it at one input. -/
def fnKeyAdditiveDifferenceIndexedWrong : ChangeSpec := { name := "fnKeyAdditiveDifferenceIndexed", vars := ["example.com/hivemap/hivemap/internal/sharedtiming.inverse"], fn := fun _ => fun
  | [d1, d2, g1] => { results := [.lit (.bool false)], args := [d1, d2], vars := [g1] }
  | _ => none }
def FnKeyAdditiveDifferenceIndexedWrongFalsely : Prop := fnKeyAdditiveDifferenceIndexedRow.holds Tryd.pinned (OpenSpec.ofChange fnKeyAdditiveDifferenceIndexedWrong)

/-- 'zzlaws_internal_sharedtiming_b1.FnIndexKeyRoundTrip': WHATEVER THE INPUT: true; the input reads as it did. -/
def fnIndexKeyRoundTripSpec : ChangeSpec := { name := "fnIndexKeyRoundTrip", vars := ["example.com/hivemap/hivemap/internal/sharedtiming.inverse"], fn := fun _ => fun
  | [d, g1] => { results := [.lit (.bool true)], args := [d], vars := [g1] }
  | _ => none }
def fnIndexKeyRoundTripRow : OpenClaim := { program := "qxb6615140adoor", sum := "d60fcd0874fd0e942e01b72727e81bc5c8d7433ce52605992feb7d0dab5325bd", func := "example.com/hivemap/hivemap/zzlaws_internal_sharedtiming_b1.FnIndexKeyRoundTrip", spec := "fnIndexKeyRoundTrip", named := ["example.com/hivemap/hivemap/internal/sharedtiming.inverse"], apart := false, laid := [("example.com/hivemap/hivemap/internal/sharedtiming.inverse", laid_example_com_hivemap_hivemap_internal_sharedtiming_inverse)] }
def FnIndexKeyRoundTripSaid : Prop := fnIndexKeyRoundTripRow.holds Tryd.pinned (OpenSpec.ofChange fnIndexKeyRoundTripSpec)

/-- ITS FALSE NEIGHBOUR: 'it returns false'. Refute it at one input. -/
def fnIndexKeyRoundTripWrong : ChangeSpec := { name := "fnIndexKeyRoundTrip", vars := ["example.com/hivemap/hivemap/internal/sharedtiming.inverse"], fn := fun _ => fun
  | [d, g1] => { results := [.lit (.bool false)], args := [d], vars := [g1] }
  | _ => none }
def FnIndexKeyRoundTripWrongFalsely : Prop := fnIndexKeyRoundTripRow.holds Tryd.pinned (OpenSpec.ofChange fnIndexKeyRoundTripWrong)

/-- 'zzlaws_internal_sharedtiming_b1.FnIndexShiftBySteps': WHATEVER THE INPUT: true; the input reads as it did. -/
def fnIndexShiftByStepsSpec : ChangeSpec := { name := "fnIndexShiftBySteps", vars := ["example.com/hivemap/hivemap/internal/sharedtiming.inverse"], fn := fun _ => fun
  | [d1, d2, g1] => { results := [.lit (.bool true)], args := [d1, d2], vars := [g1] }
  | _ => none }
def fnIndexShiftByStepsRow : OpenClaim := { program := "qxb6615140adoor", sum := "d60fcd0874fd0e942e01b72727e81bc5c8d7433ce52605992feb7d0dab5325bd", func := "example.com/hivemap/hivemap/zzlaws_internal_sharedtiming_b1.FnIndexShiftBySteps", spec := "fnIndexShiftBySteps", named := ["example.com/hivemap/hivemap/internal/sharedtiming.inverse"], apart := false, laid := [("example.com/hivemap/hivemap/internal/sharedtiming.inverse", laid_example_com_hivemap_hivemap_internal_sharedtiming_inverse)] }
def FnIndexShiftByStepsSaid : Prop := fnIndexShiftByStepsRow.holds Tryd.pinned (OpenSpec.ofChange fnIndexShiftByStepsSpec)

/-- ITS FALSE NEIGHBOUR: 'it returns false'. Refute it at one input. -/
def fnIndexShiftByStepsWrong : ChangeSpec := { name := "fnIndexShiftBySteps", vars := ["example.com/hivemap/hivemap/internal/sharedtiming.inverse"], fn := fun _ => fun
  | [d1, d2, g1] => { results := [.lit (.bool false)], args := [d1, d2], vars := [g1] }
  | _ => none }
def FnIndexShiftByStepsWrongFalsely : Prop := fnIndexShiftByStepsRow.holds Tryd.pinned (OpenSpec.ofChange fnIndexShiftByStepsWrong)

end Rows
end Go.Proofs.Qxb6615140aDoor
