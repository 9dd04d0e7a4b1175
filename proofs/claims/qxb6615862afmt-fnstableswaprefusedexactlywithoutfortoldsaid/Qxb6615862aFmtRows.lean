/-
  No cell of these rows narrows 'for every input' (looked for: loops, veiled, ifaces, maps, wideKeys, modest, calm, conditions, laid).
  DERIVED. THE GIVEN ROWS OF THIS SEAT. 2 by the template 'for every input the law returns true; each argument reads behind the call as it read before'; 0 by the template 'total and deterministic' (their statements: Qxb6615862aFmtTotals.lean).
  GIVEN WITH THE SEED: the statements are not yours to turn. If you find one false, say at which input.
  Laid BY PROGRAM, IN A SANDBOX (cutbox-rows.mjs): the forced cells as the released guide's own fill.sh prints them over the translation 8365d86c643cc6a1… (all of the seat's roots in one cut). By AI agents, Wed Nov 11 2026. No macro, syntax, notation, axiom, sorry.
-/
import Derived.Test.Qxb6615862aFmtChecked
import GoSem.Claim
import GoSem.ClaimJoined
import GoSem.ClaimMapViews
import Derived.JoinedTies
import Derived.KernelRfl
namespace Go.Proofs.Qxb6615862aFmt
/- THE CELL 'sum', in the pinned program and in every row, IS THE sha256 OF THE DUMP (.gsa) THAT Qxb6615862aFmtProg.lean LOADS. Nothing in Lean hashes anything: it is a label: what it is worth is what the hold of that sum in a sandbox is worth. -/
noncomputable def Tryf.pinned : Pinned := { name := "qxb6615862afmt", sum := "8365d86c643cc6a1b11c4a2b9e77dc270919c4c854839a1acecfac9f47339c3e", checked := Tryf.checked }
namespace Rows
def none {H : Type} : Left H := { results := [], args := [] }

/-- 'zzlaws_root_b1.FnLineErrorTextIsPrefixThenMessage': WHATEVER THE INPUT: true; the input reads as it did. -/
def fnLineErrorTextIsPrefixThenMessageSpec : ChangeSpec := { name := "fnLineErrorTextIsPrefixThenMessage", fn := fun _ => fun
  | [d1, d2] => { results := [.lit (.bool true)], args := [d1, d2] }
  | _ => none }
def fnLineErrorTextIsPrefixThenMessageRow : OpenClaim := { program := "qxb6615862afmt", sum := "8365d86c643cc6a1b11c4a2b9e77dc270919c4c854839a1acecfac9f47339c3e", func := "example.com/millrace/millrace/zzlaws_root_b1.FnLineErrorTextIsPrefixThenMessage", spec := "fnLineErrorTextIsPrefixThenMessage", stops := ["fmt.Sprintf, its operands' methods called", "fmt.errorf"], inPlace := ["fmt.Sprintf"], unfollowed := true, recurses := true, apart := false }
/-- NO THEOREM (fmt's text is open here; it may be false): for the released tool's asking of the row's closed facts alone. THE STATEMENT IS 'FnLineErrorTextIsPrefixThenMessageToldSaid' (Qxb6615862aFmtCards.lean). -/
def FnLineErrorTextIsPrefixThenMessageFormAsk : Prop := fnLineErrorTextIsPrefixThenMessageRow.holds Tryf.pinned (OpenSpec.ofChange fnLineErrorTextIsPrefixThenMessageSpec)

/-- ITS FALSE NEIGHBOUR: 'it returns false'. Refute it at one input. -/
def fnLineErrorTextIsPrefixThenMessageWrong : ChangeSpec := { name := "fnLineErrorTextIsPrefixThenMessage", fn := fun _ => fun
  | [d1, d2] => { results := [.lit (.bool false)], args := [d1, d2] }
  | _ => none }
def FnLineErrorTextIsPrefixThenMessageWrongFormAsk : Prop := fnLineErrorTextIsPrefixThenMessageRow.holds Tryf.pinned (OpenSpec.ofChange fnLineErrorTextIsPrefixThenMessageWrong)

/-- 'zzlaws_root_b1.FnStableSwapRefusedExactlyWithoutFor': WHATEVER THE INPUT: true; the input reads as it did. -/
def fnStableSwapRefusedExactlyWithoutForSpec : ChangeSpec := { name := "fnStableSwapRefusedExactlyWithoutFor", fn := fun _ => fun
  | [d1, d2, d3, d4, d5, d6, d7] => { results := [.lit (.bool true)], args := [d1, d2, d3, d4, d5, d6, d7] }
  | _ => none }
def fnStableSwapRefusedExactlyWithoutForRow : OpenClaim := { program := "qxb6615862afmt", sum := "8365d86c643cc6a1b11c4a2b9e77dc270919c4c854839a1acecfac9f47339c3e", func := "example.com/millrace/millrace/zzlaws_root_b1.FnStableSwapRefusedExactlyWithoutFor", spec := "fnStableSwapRefusedExactlyWithoutFor", stops := ["fmt.Sprintf, its operands' methods called", "fmt.errorf"], inPlace := ["fmt.errorf"], unfollowed := true, recurses := true, apart := false }
/-- NO THEOREM (fmt's text is open here; it may be false): for the released tool's asking of the row's closed facts alone. THE STATEMENT IS 'FnStableSwapRefusedExactlyWithoutForToldSaid' (Qxb6615862aFmtCards.lean). -/
def FnStableSwapRefusedExactlyWithoutForFormAsk : Prop := fnStableSwapRefusedExactlyWithoutForRow.holds Tryf.pinned (OpenSpec.ofChange fnStableSwapRefusedExactlyWithoutForSpec)

/-- ITS FALSE NEIGHBOUR: 'it returns false'. Refute it at one input. -/
def fnStableSwapRefusedExactlyWithoutForWrong : ChangeSpec := { name := "fnStableSwapRefusedExactlyWithoutFor", fn := fun _ => fun
  | [d1, d2, d3, d4, d5, d6, d7] => { results := [.lit (.bool false)], args := [d1, d2, d3, d4, d5, d6, d7] }
  | _ => none }
def FnStableSwapRefusedExactlyWithoutForWrongFormAsk : Prop := fnStableSwapRefusedExactlyWithoutForRow.holds Tryf.pinned (OpenSpec.ofChange fnStableSwapRefusedExactlyWithoutForWrong)

end Rows
end Go.Proofs.Qxb6615862aFmt
