/-
  DERIVED. GIVEN WITH THE SEED: THE CARDS: each row of Qxb6615140aDoorRows.lean that lists a variable, with what it lists TIED to the program's text (the seventh form; the later family's looks); each row that meets fmt, with fmt's text TOLD by the authors' own Lean function (tested against real Go, not proved from fmt's source: count such statements apart). THE CARD IS WHAT COUNTS. Prove the row's statement (the work); the ties are given (Qxb6615140aDoorTie.lean); close each card by the builder's one call (the guide's Derived/Test/ToyasCard.lean, 'card_holds'). Laid BY PROGRAM, IN A SANDBOX (cutbox-door.mjs). By AI agents, Wed Nov 11 2026. No macro, syntax, notation, axiom, sorry.
-/
import Derived.Test.Qxb6615140aDoorRows
import GoSem.ClaimSeven
namespace Go.Proofs.Qxb6615140aDoor
namespace Rows

/-- THE TIED CARD OF 'zzlaws_internal_sharedtiming_b1.FnKeyIndexRoundTrip'. -/
def fnKeyIndexRoundTripCard : Claim7 := { stood := { row := fnKeyIndexRoundTripRow, standIns := [], harness := (true, "fcb55f1545f0a02fce516b28b15253a620d410d08f69c2ac51b2aad563f8b27f"), looks := false }, kinds := [], alts := [], laidByText := true, laidKinds := [.called], laidTests := true, laidLooks := .later }
def FnKeyIndexRoundTripCardSaid : Prop := Claim7.holds Tryd.pinned (.plain (OpenSpec.ofChange fnKeyIndexRoundTripSpec)) fnKeyIndexRoundTripCard

/-- THE TIED CARD OF 'zzlaws_internal_sharedtiming_b1.FnKeyAdditiveDifferenceIndexed'. -/
def fnKeyAdditiveDifferenceIndexedCard : Claim7 := { stood := { row := fnKeyAdditiveDifferenceIndexedRow, standIns := [], harness := (true, "fcb55f1545f0a02fce516b28b15253a620d410d08f69c2ac51b2aad563f8b27f"), looks := false }, kinds := [], alts := [], laidByText := true, laidKinds := [.called], laidTests := true, laidLooks := .later }
def FnKeyAdditiveDifferenceIndexedCardSaid : Prop := Claim7.holds Tryd.pinned (.plain (OpenSpec.ofChange fnKeyAdditiveDifferenceIndexedSpec)) fnKeyAdditiveDifferenceIndexedCard

/-- THE TIED CARD OF 'zzlaws_internal_sharedtiming_b1.FnIndexKeyRoundTrip'. -/
def fnIndexKeyRoundTripCard : Claim7 := { stood := { row := fnIndexKeyRoundTripRow, standIns := [], harness := (true, "fcb55f1545f0a02fce516b28b15253a620d410d08f69c2ac51b2aad563f8b27f"), looks := false }, kinds := [], alts := [], laidByText := true, laidKinds := [.called], laidTests := true, laidLooks := .later }
def FnIndexKeyRoundTripCardSaid : Prop := Claim7.holds Tryd.pinned (.plain (OpenSpec.ofChange fnIndexKeyRoundTripSpec)) fnIndexKeyRoundTripCard

/-- THE TIED CARD OF 'zzlaws_internal_sharedtiming_b1.FnIndexShiftBySteps'. -/
def fnIndexShiftByStepsCard : Claim7 := { stood := { row := fnIndexShiftByStepsRow, standIns := [], harness := (true, "fcb55f1545f0a02fce516b28b15253a620d410d08f69c2ac51b2aad563f8b27f"), looks := false }, kinds := [], alts := [], laidByText := true, laidKinds := [.called], laidTests := true, laidLooks := .later }
def FnIndexShiftByStepsCardSaid : Prop := Claim7.holds Tryd.pinned (.plain (OpenSpec.ofChange fnIndexShiftByStepsSpec)) fnIndexShiftByStepsCard
end Rows
end Go.Proofs.Qxb6615140aDoor
