/-
  THE ROW AND THE CARD OF 'FnIndexShiftBySteps' (seat b6615140aD).
-/
import Derived.Test.Qxb6615140aDoorBase
import Derived.Test.Qxb6615140aDoorCards
namespace Go.Proofs.Qxb6615140aDoor.IndexShiftBySteps
open Go.ChangeShapes Go.WideShapes Go.ChangeAt Go.RowKit

set_option maxRecDepth 100000 in
theorem lifted (os : Os) (started : os.Started) (H : Type) (enc : TypeId × Value → H) :
    ReturnsInHanded {} Tryd.checked os 6 .any (fun w args => (Rows.fnIndexShiftByStepsSpec.pre enc Tryd.prog Tryd.f6 [] false w args ∧ laidMetH Tryd.prog laid1 w) ∧ sizedMet enc Tryd.prog Tryd.f6 (OpenSpec.ofChange Rows.fnIndexShiftByStepsSpec) false w args)
      (Rows.fnIndexShiftByStepsSpec.post enc Tryd.prog Tryd.f6 false true false false) := by
  refine returnsInHanded_of_change_and (C := Tryd.checked) (X := fun w _ => laidMetH Tryd.prog laid1 w) (fun _ _ _ hh h => h.of_heap hh) own started (by kernel_rfl) Tryd.func6
    (ChangeSpec.witness_shaped (enc := enc) (C := Tryd.checked) (os := os) (X := fun w _ => laidMetH Tryd.prog laid1 w) false (World.doorLaid Tryd.prog 158 os) #[.int .u64 0, .int .u64 0] 8 rfl (World.shaped_of_RefB (by kernel_rfl) (by kernel_rfl)) (by kernel_rfl) (by kernel_rfl) (by kernel_rfl) (door_met os _)) ?_
  intro W base args ds gs before hval0 hW _ _ hL _
  have hval : ∀ (j : Nat) t v, Tryd.f6.params[j]? = some t → args[j]? = some v → Value.okWide Tryd.prog W .any base t v := hval0
  have hW' := hW
  obtain ⟨p, q, hA0, hV, rfl, hfz, hnd⟩ := hW
  have hA : DataW.TrodAll enc Tryd.prog W 0 (fun _ => true) true Tryd.f6.params.toList args.toList ds p := hA0
  rw [Tryd.params6] at hA hval
  obtain ⟨v0, v1, d0, d1, p0, p1, rfl, rfl, rfl, h0, h1⟩ := trodAll_two hA
  obtain ⟨a, rfl, rfl, rfl, w0⟩ := open_int Tryd.underlying22 (hval 0 22 v0 rfl rfl) h0
  obtain ⟨b, rfl, rfl, rfl, w1⟩ := open_int Tryd.underlying22 (hval 1 22 v1 rfl rfl) h1
  have hV1 : DataW.TrodVars enc Tryd.prog W (fun _ => true) [invName] gs q := hV
  obtain ⟨g, rfl, hq⟩ := vars_again hV1
  have hc := of_laid hL
  clear hA0 hval0
  refine (law6 a b W hc (by rw [idx_shift]; simp)).mono fun e W' ⟨he, hw⟩ => ?_
  subst he; subst hw
  exact ⟨_, rfl, post_of_same (pa := []) (pv := q) hW' (fun _ _ _ => trodAll_mk1 (shut_bool Tryd.underlying4 _)) (fun sp _ => trodAll_mk2 (shut_int Tryd.underlying22 w0) (shut_int Tryd.underlying22 w1)) (fun sp _ => hq sp) rfl (World.keptBut_refl _ _) (fun _ => rfl) (ok_one (by kernel_rfl) rfl (okWide_bool_mk Tryd.underlying4 _))⟩

theorem over : Rows.FnIndexShiftByStepsSaid :=
  OpenClaim.holds_of_wide 6 Tryd.f6 rfl rfl rfl rfl rfl rfl rfl ⟨rfl, rfl, rfl, rfl, rfl⟩ rfl rfl rfl rfl rfl (by kernel_rfl) Tryd.func6 (by kernel_rfl)
    (of_decide_eq_true (by kernel_rfl)) (by unfold Func.isWrapper; rw [if_neg (by decide +kernel)]; exact ⟨rfl, rfl⟩)
    (fun os started H enc _ => lifted os started H enc)

end Go.Proofs.Qxb6615140aDoor.IndexShiftBySteps

namespace Go.Proofs.Qxb6615140aDoor
/-- THE CARD. -/
theorem fnIndexShiftBySteps_proved : Rows.FnIndexShiftByStepsCardSaid :=
  Claim7.holds_tied_plain_at .later [] [.called] true (true, "fcb55f1545f0a02fce516b28b15253a620d410d08f69c2ac51b2aad563f8b27f") false
    IndexShiftBySteps.over (fun _ h => by cases h) (by kernel_rfl) (fun _ h => by cases h) fnIndexShiftBySteps_row_tie rfl ⟨rfl, rfl⟩ (by kernel_rfl) rfl
    (fun f fn hf hfn => by
      obtain rfl : f = 6 := Option.some.inj ((show Tryd.prog.funcNamed Rows.fnIndexShiftByStepsRow.func = some 6 by kernel_rfl).symm.trans hf) |>.symm
      obtain rfl : fn = Tryd.f6 := (Option.some.inj (Tryd.func6.symm.trans hfn)).symm
      exact ⟨by kernel_rfl, fun j t ht => by
        rw [Tryd.params6] at ht
        have hm : t ∈ [22] := by simpa using Array.mem_of_getElem? ht
        have hall : ([22].all fun u => !Tryd.prog.wantsStandIn u) = true := by kernel_rfl
        exact (show Tryd.prog.wantsStandIn t = false by simpa using List.all_eq_true.1 hall t hm)⟩)
    (by kernel_rfl)
end Go.Proofs.Qxb6615140aDoor
