/-
  THE WALKS over the seat b6615140aD: Key, Index and the four laws.
-/
import Derived.Test.Qxb6615140aDoorProg
import Derived.Test.Qxb6615140aDoorPlain
import Derived.WalkKit
import Derived.WalkSpells
namespace Go.Proofs.Qxb6615140aDoor
open Go.RowKit
set_option maxHeartbeats 400000

theorem key_any (k : Int) (w : World) :
    Calls Tryd.prog 8 #[.int .u64 k] w fun e w' => e = .returned (.int .u64 (keyF k)) ∧ w' = w := by
  go_enter Tryd.func8, Tryd.ntmps8
  go_wp2
  go_ret
  exact ⟨rfl, rfl⟩

theorem idx_any (k : Int) (w : World) (hc : w.cell? ⟨0, 0, none⟩ = some (.int .u64 17428512612931826493)) :
    Calls Tryd.prog 7 #[.int .u64 k] w fun e w' => e = .returned (.int .u64 (idxF k)) ∧ w' = w := by
  go_enter Tryd.func7, Tryd.ntmps7
  go_wp2
  go_ret
  exact ⟨rfl, rfl⟩

theorem law3 (k : Int) (w : World) (hc : w.cell? ⟨0, 0, none⟩ = some (.int .u64 17428512612931826493)) (e : (idxF (keyF k) == k) = true) :
    Calls Tryd.prog 3 #[.int .u64 k] w fun e w' => e = .returned (.bool true) ∧ w' = w := by
  go_enter Tryd.func3, Tryd.ntmps3
  go_wp2_with (first | (go_at_call 8; refine (key_any _ _).mono ?_; rintro e w' ⟨rfl, rfl⟩) | (go_at_call 7; refine (idx_any _ _ hc).mono ?_; rintro e w' ⟨rfl, rfl⟩))
  go_ret
  exact ⟨rfl, rfl⟩

theorem law5 (k : Int) (w : World) (hc : w.cell? ⟨0, 0, none⟩ = some (.int .u64 17428512612931826493)) (e : (keyF (idxF k) == k) = true) :
    Calls Tryd.prog 5 #[.int .u64 k] w fun e w' => e = .returned (.bool true) ∧ w' = w := by
  go_enter Tryd.func5, Tryd.ntmps5
  go_wp2_with (first | (go_at_call 8; refine (key_any _ _).mono ?_; rintro e w' ⟨rfl, rfl⟩) | (go_at_call 7; refine (idx_any _ _ hc).mono ?_; rintro e w' ⟨rfl, rfl⟩))
  go_ret
  exact ⟨rfl, rfl⟩

theorem law4 (a b : Int) (w : World) (hc : w.cell? ⟨0, 0, none⟩ = some (.int .u64 17428512612931826493))
    (e1 : (keyF (IntKind.u64.wrap (a + b)) == IntKind.u64.wrap (keyF a + keyF b)) = true) (e2 : (idxF (IntKind.u64.wrap (keyF b - keyF a)) == IntKind.u64.wrap (b - a)) = true) :
    Calls Tryd.prog 4 #[.int .u64 a, .int .u64 b] w fun e w' => e = .returned (.bool true) ∧ w' = w := by
  go_enter Tryd.func4, Tryd.ntmps4
  go_wp2_with (first | (go_at_call 8; refine (key_any _ _).mono ?_; rintro e w' ⟨rfl, rfl⟩) | (go_at_call 7; refine (idx_any _ _ hc).mono ?_; rintro e w' ⟨rfl, rfl⟩))
  go_ret
  exact ⟨rfl, rfl⟩

theorem law6 (a d : Int) (w : World) (hc : w.cell? ⟨0, 0, none⟩ = some (.int .u64 17428512612931826493))
    (e : (idxF (IntKind.u64.wrap (a + keyF d)) == IntKind.u64.wrap (idxF a + d)) = true) :
    Calls Tryd.prog 6 #[.int .u64 a, .int .u64 d] w fun e w' => e = .returned (.bool true) ∧ w' = w := by
  go_enter Tryd.func6, Tryd.ntmps6
  go_wp2_with (first | (go_at_call 8; refine (key_any _ _).mono ?_; rintro e w' ⟨rfl, rfl⟩) | (go_at_call 7; refine (idx_any _ _ hc).mono ?_; rintro e w' ⟨rfl, rfl⟩))
  go_ret
  exact ⟨rfl, rfl⟩
end Go.Proofs.Qxb6615140aDoor
