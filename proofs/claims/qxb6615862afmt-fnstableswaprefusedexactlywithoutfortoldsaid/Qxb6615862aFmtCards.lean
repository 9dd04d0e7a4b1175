/-
  DERIVED. GIVEN WITH THE SEED: THE CARDS: each row of Qxb6615862aFmtRows.lean that lists a variable, with what it lists TIED to the program's text (the seventh form; the later family's looks); each row that meets fmt, with fmt's text TOLD by the authors' own Lean function (tested against real Go, not proved from fmt's source: count such statements apart). THE CARD IS WHAT COUNTS. Prove the row's statement (the work); the ties are given (Qxb6615862aFmtTie.lean); close each card by the builder's one call (the guide's Derived/Test/ToyasCard.lean, 'card_holds'). Laid BY PROGRAM, IN A SANDBOX (cutbox-door.mjs). By AI agents, Wed Nov 11 2026. No macro, syntax, notation, axiom, sorry.
-/
import Derived.Test.Qxb6615862aFmtRows
import GoSem.ClaimSeven
namespace Go.Proofs.Qxb6615862aFmt
namespace Rows

/-- THE TOLD CARD OF 'zzlaws_root_b1.FnLineErrorTextIsPrefixThenMessage'. -/
def fnLineErrorTextIsPrefixThenMessageCard : Claim7 := { stood := { row := fnLineErrorTextIsPrefixThenMessageRow, standIns := [], harness := (true, "5ae6b84c1214c729605ea8d72df244af528387eb5e0d25c36bafe6288577075a"), looks := true }, told := true, goes := false }
def FnLineErrorTextIsPrefixThenMessageToldSaid : Prop := Claim7.holds Tryf.pinned (.plain (OpenSpec.ofChange fnLineErrorTextIsPrefixThenMessageSpec)) fnLineErrorTextIsPrefixThenMessageCard
/-- ITS FALSE NEIGHBOUR. Refute it at one input. -/
def FnLineErrorTextIsPrefixThenMessageToldWrongFalsely : Prop := Claim7.holds Tryf.pinned (.plain (OpenSpec.ofChange fnLineErrorTextIsPrefixThenMessageWrong)) fnLineErrorTextIsPrefixThenMessageCard

/-- THE TOLD CARD OF 'zzlaws_root_b1.FnStableSwapRefusedExactlyWithoutFor'. -/
def fnStableSwapRefusedExactlyWithoutForCard : Claim7 := { stood := { row := fnStableSwapRefusedExactlyWithoutForRow, standIns := [], harness := (true, "5ae6b84c1214c729605ea8d72df244af528387eb5e0d25c36bafe6288577075a"), looks := true }, told := true, goes := false }
def FnStableSwapRefusedExactlyWithoutForToldSaid : Prop := Claim7.holds Tryf.pinned (.plain (OpenSpec.ofChange fnStableSwapRefusedExactlyWithoutForSpec)) fnStableSwapRefusedExactlyWithoutForCard
/-- ITS FALSE NEIGHBOUR. Refute it at one input. -/
def FnStableSwapRefusedExactlyWithoutForToldWrongFalsely : Prop := Claim7.holds Tryf.pinned (.plain (OpenSpec.ofChange fnStableSwapRefusedExactlyWithoutForWrong)) fnStableSwapRefusedExactlyWithoutForCard
end Rows
end Go.Proofs.Qxb6615862aFmt
