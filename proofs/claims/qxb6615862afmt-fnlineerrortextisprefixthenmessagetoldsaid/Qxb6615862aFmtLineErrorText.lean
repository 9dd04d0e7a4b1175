/-
  THE TOLD CARD OF 'FnLineErrorTextIsPrefixThenMessage' (seat b6615862aF): fmt's text told by the model's own function.
-/
import Derived.Test.Qxb6615862aFmtCards
import Derived.Test.Qxb6615862aFmtLaw3
import Derived.ProofKit
import Derived.Stop.JoinedAt
import Derived.Stop.Texts
import Derived.Stop.JoinedTold
import Derived.SizedLaws
import Derived.SevenToldRow
namespace Go.Proofs.Qxb6615862aFmt.LineErrorText
open Go.ChangeShapes Go.WideShapes Go.ChangeAt Go.RowKit Go.Kit
open Go.ChangeMaps (open_string shut_string)
open Go.Extern.Stop Go.Stop Go.Extern

theorem own : ownKnob Tryf.prog.godebug = none := by kernel_rfl

set_option maxRecDepth 100000 in
theorem lifted (os : Os) (started : os.Started) (H : Type) (enc : TypeId × Value → H) :
    ReturnsInTold none {} Tryf.checked os 3 .any Input.okWide ((OpenSpec.ofChange Rows.fnLineErrorTextIsPrefixThenMessageSpec).preRow enc Tryf.prog Tryf.f3 [] false []) (fun F => ((OpenSpec.ofChange Rows.fnLineErrorTextIsPrefixThenMessageSpec).at F).post enc Tryf.prog Tryf.f3 false true false false) (aloneAtReturn Tryf.prog) nothingAlways := by
  refine returnsInTold_of_row (C := Tryf.checked) (s := OpenSpec.ofChange Rows.fnLineErrorTextIsPrefixThenMessageSpec) (by kernel_rfl) own started (by kernel_rfl) Tryf.func3
    (OpenSpec.witness_stopped (enc := enc) (C := Tryf.checked) false ⟨#[], #[.int .i64 0, .string ⟨#[]⟩], []⟩ 8 (by kernel_rfl) (by kernel_rfl) (by kernel_rfl) (by kernel_rfl)) ?_
  intro F W base args ds gs before _ hF hval0 hW _ _ _ _ _
  have hval : ∀ (j : Nat) t v, Tryf.f3.params[j]? = some t → args[j]? = some v → Value.okWide Tryf.prog W .any base t v := hval0
  have hW' := hW
  obtain ⟨p, q, hA0, hV, rfl, hfz, hnd⟩ := hW
  have hA : DataW.TrodAll enc Tryf.prog W 0 (fun _ => true) true Tryf.f3.params.toList args.toList ds p := hA0
  rw [Tryf.params3] at hA hval
  obtain ⟨v0, v1, d0, d1, p0, p1, rfl, rfl, rfl, h0, h1⟩ := trodAll_two hA
  obtain ⟨n, rfl, rfl, rfl, wn⟩ := open_int Tryf.underlying3 (hval 0 3 v0 rfl rfl) h0
  obtain ⟨s, rfl, rfl, rfl, ws⟩ := open_string Tryf.underlying9 (hval 1 9 v1 rfl rfl) h1
  obtain ⟨rfl, rfl⟩ := trodVars_none hV
  clear hA0 hval0
  have hcall : Calls Tryf.prog 3 #[.int .i64 n, .string s] W fun e w' => e = .returned (.bool true) ∧ Below W.heap.size W w' := by
    by_cases hs : s.size ≤ 1048576
    · exact law_short F n s W hF wn hs
    · exact law_long n s W hs
  refine hcall.mono fun e W' ⟨he, hb⟩ => ?_
  subst he
  refine ⟨_, rfl, _, _, _, [], [], [], hW', ?_, ?_, rfl, hb.frame _, fun h => by cases h⟩
  · exact trodAll_mk1 (shut_bool Tryf.underlying4 _)
  · exact trodAll_mk2 (shut_int Tryf.underlying3 wn) (shut_string Tryf.underlying9 ws)
end Go.Proofs.Qxb6615862aFmt.LineErrorText

namespace Go.Proofs.Qxb6615862aFmt
open Go.Extern.Stop Go.Stop Go.Extern
theorem LineErrorText.laidOut : laidOutB Tryf.pinned.checked.prog = true := by kernel_rfl
theorem LineErrorText.stops : Tryf.pinned.checked.prog.stops = FmtCalls.callsName "fmt.Sprintf" :: ["fmt.errorf"] := by kernel_rfl
theorem LineErrorText.stopKnobs : Tryf.pinned.checked.prog.stopKnobs = [] := by kernel_rfl
theorem LineErrorText.quiet (os : Os) : Stop.quiet Tryf.pinned.checked.prog os := by
  intro k hk
  rw [LineErrorText.stopKnobs] at hk
  cases hk

/-- THE CARD. -/
theorem fnLineErrorTextIsPrefixThenMessage_proved : Rows.FnLineErrorTextIsPrefixThenMessageToldSaid :=
  Claim7.holds_of_told_any 3 Tryf.f3 (FmtCalls.callsName "fmt.Sprintf") ["fmt.errorf"] [] _ _ _ (by kernel_rfl) rfl rfl rfl LineErrorText.laidOut (by kernel_rfl) rfl ⟨rfl, rfl, rfl, rfl, rfl, rfl, rfl⟩ rfl rfl (by kernel_rfl) (by kernel_rfl) Tryf.func3 (by kernel_rfl)
    (of_decide_eq_true (by kernel_rfl)) (of_decide_eq_true (by kernel_rfl)) (by kernel_rfl) (by kernel_rfl) LineErrorText.stopKnobs.symm (by kernel_rfl)
    (by kernel_rfl) (by kernel_rfl) (by kernel_rfl) (by kernel_rfl) (by kernel_rfl) (by kernel_rfl) (by kernel_rfl) (by kernel_rfl) (by kernel_rfl) rfl (by kernel_rfl) rfl rfl
    rfl rfl
    rfl (by kernel_rfl) (by kernel_rfl) (by kernel_rfl) (by kernel_rfl) (by kernel_rfl)
    (OpenClaim.moreEntering_of (by kernel_rfl) (by kernel_rfl) (by kernel_rfl) (by kernel_rfl) (by kernel_rfl) (by kernel_rfl) (by kernel_rfl) (by kernel_rfl) (by kernel_rfl) (by kernel_rfl))
    ⟨_, WideRow.started_initial, LineErrorText.quiet _⟩
    (fun os started _ H enc _ => LineErrorText.lifted os started H enc)
end Go.Proofs.Qxb6615862aFmt
