/-
  WHAT THE FOUR CARDS OF THE SEAT b6615140aD SHARE: the listed variable opened, the door's own heap, the named variable read again.
-/
import Derived.Test.Qxb6615140aDoorRows
import Derived.Test.Qxb6615140aDoorTie
import Derived.Test.Qxb6615140aDoorWalks
import Derived.ProofKit
import Derived.LaidMore
import Derived.OpenShut
import Derived.Stop.Joined
namespace Go.Proofs.Qxb6615140aDoor
open Go.ChangeShapes Go.WideShapes Go.ChangeAt Go.RowKit

/-- The variable's name, as the given rows spell it. -/
def invName : String := Rows.fnKeyIndexRoundTripSpec.vars.headD ""
def laid1 : List (String × DataW Unit) := [(invName, Rows.laid_example_com_hivemap_hivemap_internal_sharedtiming_inverse)]
theorem own : ownKnob Tryd.prog.godebug = none := by kernel_rfl
theorem gInv : Tryd.prog.globalNamed invName = some 0 := by kernel_rfl
theorem tInv : (Tryd.prog.globals[0]?).map (·.type) = some 22 := by kernel_rfl

theorem door_met (os : Os) (args : Array Value) : laidMetH Tryd.prog laid1 ((World.doorLaid Tryd.prog 158 os).forCall (fun _ _ => 0) ⟨#[], args, []⟩).memory :=
  laidMetH_of_parts3 (fuel := 8) (laidMet_of_run' 8 (by kernel_rfl) (by kernel_rfl)) (by kernel_rfl) (by kernel_rfl)

theorem word_of_wf {x : Int} (h : (Lit.int .u64 x).wf = true) : 0 ≤ x ∧ x < 18446744073709551616 := by
  simp [Lit.wf, IntKind.min, IntKind.max, IntKind.signed, IntKind.bits] at h
  exact ⟨by omega, by omega⟩

/-- WHAT THE CONDITION GIVES THE WALKS: the variable's cell. -/
theorem of_laid {W : World} (h : laidMetH Tryd.prog laid1 W) : W.cell? ⟨0, 0, none⟩ = some (.int .u64 17428512612931826493) := by
  rw [MakeChecks.laidMetH_plain _ _ _ (by kernel_rfl)] at h
  obtain ⟨ps, ⟨g0, t0, cs0, f0, p0, q0, hg0, ht0, hv0, hd0, _, _⟩, _, _⟩ := h
  obtain rfl := Option.some.inj (gInv.symm.trans hg0)
  obtain rfl := Option.some.inj (tInv.symm.trans ht0)
  obtain ⟨k, e1, e2, _⟩ := DataW.trod_int Tryd.underlying22 hd0
  have hk : k = 17428512612931826493 := by
    have e3 := congrArg Prod.fst e2
    simpa [Rows.laid_example_com_hivemap_hivemap_internal_sharedtiming_inverse] using e3.symm
  have := World.var?_cell hg0 hv0 0
  rw [Array.eq_one_of_toList e1, hk] at this
  simpa using this

/-- The named variable, read again: whatever it holds. -/
theorem vars_again {H : Type} {enc : TypeId × Value → H} {W : World} {gs : List (DataW H)} {q : List MemPlace}
    (h : DataW.TrodVars enc Tryd.prog W (fun _ => true) [invName] gs q) :
    ∃ g, gs = [g] ∧ ∀ sp : Nat → Bool, DataW.TrodVars enc Tryd.prog W sp [invName] [g] q := by
  obtain ⟨g0, t0, cs0, f0, d0, p0, rfl, hg0, ht0, hv0, hd0, rfl⟩ := trodVars_one h
  refine ⟨d0, rfl, fun sp => ?_⟩
  obtain rfl := Option.some.inj (tInv.symm.trans (by rw [← ht0, Option.some.inj (gInv.symm.trans hg0)]))
  obtain ⟨k, e1, e2, wk⟩ := DataW.trod_int Tryd.underlying22 hd0
  simp only [Prod.mk.injEq] at e2
  obtain ⟨rfl, rfl⟩ := e2
  exact trodVars_mk1 (fuel := 1) hg0 ht0 hv0 (by rw [e1]; exact trod_int_mk 0 Tryd.underlying22 wk)
end Go.Proofs.Qxb6615140aDoor
