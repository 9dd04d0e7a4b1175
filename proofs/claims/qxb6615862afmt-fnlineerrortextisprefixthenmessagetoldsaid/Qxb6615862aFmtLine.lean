/-
  THE WALKS OF errors.New, (*LineError).Error AND ZZlineErrorText: FOR EVERY F.
-/
import Derived.Test.Qxb6615862aFmtFacts
import Derived.WalkKit
import Derived.WalkSpells
import Derived.Stop.Texts
import Derived.Deep.RegionWith
import Derived.BigRegion
namespace Go.Proofs.Qxb6615862aFmt
open Go.RowKit Go.Extern.Stop Go.Stop Go.Extern

/-- What fmt.Sprintf is asked. -/
def lineReading (n : Int) (s : List UInt8) : List (List UInt8) :=
  [[108, 105, 110, 101, 32, 37, 100, 58, 32, 37, 118], Tryf.shape3, Go.Extern.Stop.digits 8 (n % 18446744073709551616).toNat, Tryf.plain53, s]

set_option maxHeartbeats 400000 in
theorem new_any (s : ByteArray) (w : World) :
    Calls Tryf.prog 10 #[.string s] w fun e w' => e = .returned (.iface 53 (.pointer (some ⟨w.heap.size, 0, none⟩))) ∧ w' = w.alloc (.cells #[.string s] 55) := by
  go_enter Tryf.func10, Tryf.ntmps10
  go_wp2
  go_ret
  exact ⟨rfl, rfl⟩

set_option maxHeartbeats 800000 in
/-- The stop's turns at this format: an int and an error of errors.New's make: both read, none called. -/
theorem rows_line (F : Interp) (n : Int) (s : ByteArray) (g c : Nat) (W : World) {R : Value → World → Prop} (hF : F.answers W.tape)
    (h0 : W.cell? ⟨g, 0, none⟩ = some (.iface 3 (.int .i64 n))) (h1 : W.cell? ⟨g, 1, none⟩ = some (.iface 53 (.pointer (some ⟨c, 0, none⟩)))) (h2 : W.cell? ⟨c, 0, none⟩ = some (.string s))
    (h : R (.string (FmtStop.textOf (F "fmt.Sprintf" (lineReading n s.data.toList) 0))) W.drew) :
    Rows Tryf.prog FmtCalls.turnsRow (FmtCalls.save 0 0 (.slice (some ⟨g, 0, none⟩) 2 2) ⟨#[108, 105, 110, 101, 32, 37, 100, 58, 32, 37, 118]⟩ [] [(0, 100, false), (1, 118, false)]) W R := by
  have hF' := answers_open hF
  have hop := Tryf.opPlain53_118 "fmt.Sprintf" ⟨c, 0, none⟩ s W h2
  apply rows_value Tryf.nextTurns
  case hr =>
    go_simp
    exact ⟨rfl, rfl⟩
  case h => exact h

set_option maxHeartbeats 800000 in
theorem error_any (F : Interp) (n : Int) (s : ByteArray) (b c : Nat) (w : World) (hF : F.answers w.tape)
    (h0 : w.cell? ⟨b, 0, none⟩ = some (.int .i64 n)) (h1 : w.cell? ⟨b, 1, none⟩ = some (.iface 53 (.pointer (some ⟨c, 0, none⟩)))) (h2 : w.cell? ⟨c, 0, none⟩ = some (.string s)) (hcl : c < w.heap.size) :
    Calls Tryf.prog 11 #[.pointer (some ⟨b, 0, none⟩)] w fun e w' => e = .returned (.string (FmtStop.textOf (F "fmt.Sprintf" (lineReading n s.data.toList) 0))) ∧ Below w.heap.size w w' := by
  have hk : ∀ O : Obj, ((w.alloc O).drew).cell? ⟨c, 0, none⟩ = some (.string s) := fun O => by rw [← h2]; exact (((Below.refl _ w).alloc (Nat.le_refl _) O).drew).cell (p := ⟨c, 0, none⟩) hcl
  go_enter Tryf.func11, Tryf.ntmps11
  go_wp2
  go_region_with (refine rows_line F n s _ c _ (by exact hF) (by simp) (by simp) (by first | exact hk _ | simp [*]) ?_)
  all_goals go_wp2
  all_goals go_ret
  all_goals exact ⟨rfl, by first | exact (((Below.refl _ w).alloc (Nat.le_refl _) _).drew).drew | exact (((Below.refl _ w).drew).alloc (Nat.le_refl _) _).drew⟩

set_option maxHeartbeats 800000 in
theorem text_any (F : Interp) (n : Int) (s : ByteArray) (w : World) (hF : F.answers w.tape) :
    Calls Tryf.prog 6 #[.int .i64 n, .string s] w fun e w' => e = .returned (.string (FmtStop.textOf (F "fmt.Sprintf" (lineReading n s.data.toList) 0))) ∧ Below w.heap.size w w' := by
  go_enter Tryf.func6, Tryf.ntmps6
  go_wp2_with (first | (go_at_call 10; refine (new_any _ _).mono ?_; rintro e w' ⟨rfl, rfl⟩) | (go_at_call 11; refine (error_any F n s _ w.heap.size _ (by exact hF) (by simp) (by simp) (by simp) (by simp; omega)).mono ?_; rintro e w' ⟨rfl, hb⟩))
  go_ret
  exact ⟨rfl, (((Below.refl _ w).alloc (Nat.le_refl _) _).alloc (by simp) _).trans (hb.mono (by simp; omega))⟩
end Go.Proofs.Qxb6615862aFmt
