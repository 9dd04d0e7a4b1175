/-
  THE LAW's WALK: FnStableSwapRefusedExactlyWithoutFor.
-/
import Derived.Test.Qxb6615862aFmtSwap
import Derived.Deep.QuietTactic
import Derived.BigQuiet
import Derived.WalkSmall
namespace Go.Proofs.Qxb6615862aFmt
open Go.RowKit

set_option maxRecDepth 100000 in
set_option maxHeartbeats 400000 in
theorem bytes4_any (t1 m1 t2 m2 : Int) (k1 k2 fo : ByteArray) (w : World) :
    Calls Tryf.prog 8 #[.int .i64 t1, .string k1, .int .i64 m1, .int .i64 t2, .string k2, .int .i64 m2, .string fo] w fun e w' => e = .returned (.bool (decide (k1.size + k2.size + fo.size ≤ 1048576))) ∧ w' = w := by
  by_cases h1 : (1048576 : Int) < (k1.size : Int)
  · rw [decide_eq_false (by omega)]
    go_enter Tryf.func8, Tryf.ntmps8
    go_wp2
    go_ret
    exact ⟨rfl, rfl⟩
  · by_cases h2 : (1048576 : Int) < (k2.size : Int)
    · rw [decide_eq_false (by omega)]
      go_enter Tryf.func8, Tryf.ntmps8
      go_wp2
      go_ret
      exact ⟨rfl, rfl⟩
    · by_cases h3 : (1048576 : Int) < (k1.size : Int) + (k2.size : Int)
      · rw [decide_eq_false (by omega)]
        go_enter Tryf.func8, Tryf.ntmps8
        go_wp2
        go_ret
        exact ⟨rfl, rfl⟩
      · by_cases h4 : (1048576 : Int) < (fo.size : Int)
        · rw [decide_eq_false (by omega)]
          go_enter Tryf.func8, Tryf.ntmps8
          go_wp2
          go_ret
          exact ⟨rfl, rfl⟩
        · by_cases h5 : (1048576 : Int) < (k1.size : Int) + (k2.size : Int) + (fo.size : Int)
          · rw [decide_eq_false (by omega)]
            go_enter Tryf.func8, Tryf.ntmps8
            go_wp2
            go_ret
            exact ⟨rfl, rfl⟩
          · rw [decide_eq_true (by omega)]
            go_enter Tryf.func8, Tryf.ntmps8
            go_wp2
            go_ret
            exact ⟨rfl, rfl⟩

set_option maxRecDepth 100000 in
set_option maxHeartbeats 400000 in
theorem law4_long (t1 : Int) (k1 : ByteArray) (m1 t2 : Int) (k2 : ByteArray) (m2 : Int) (fo : ByteArray) (w : World) (h : ¬ k1.size + k2.size + fo.size ≤ 1048576) :
    Calls Tryf.prog 4 #[.int .i64 t1, .string k1, .int .i64 m1, .int .i64 t2, .string k2, .int .i64 m2, .string fo] w fun e w' => e = .returned (.bool true) ∧ Below w.heap.size w w' := by
  have hd : decide (k1.size + k2.size + fo.size ≤ 1048576) = false := decide_eq_false h
  go_enter Tryf.func4, Tryf.ntmps4
  go_wp2_with (go_at_call 8; refine (bytes4_any _ _ _ _ _ _ _ _).mono ?_; rw [hd]; rintro e w' ⟨rfl, rfl⟩)
  go_ret
  exact ⟨rfl, Below.refl _ _⟩

set_option maxRecDepth 100000 in
set_option maxHeartbeats 400000 in
theorem law4_no (t1 : Int) (k1 : ByteArray) (m1 t2 : Int) (k2 : ByteArray) (m2 : Int) (fo : ByteArray) (w : World) (h : k1.size + k2.size + fo.size ≤ 1048576) (hs : fo.toList.isEmpty = false) :
    Calls Tryf.prog 4 #[.int .i64 t1, .string k1, .int .i64 m1, .int .i64 t2, .string k2, .int .i64 m2, .string fo] w fun e w' => e = .returned (.bool true) ∧ Below w.heap.size w w' := by
  have hd : decide (k1.size + k2.size + fo.size ≤ 1048576) = true := decide_eq_true h
  have i1 : ¬ (1048576 : Int) < (k1.size : Int) := by omega
  have i2 : ¬ (1048576 : Int) < (k2.size : Int) := by omega
  have i3 : ¬ (1048576 : Int) < (fo.size : Int) := by omega
  have i4 : ¬ (1048576 : Int) < (k1.size : Int) + (k2.size : Int) + (fo.size : Int) := by omega
  have he : (ByteArray.mk #[]).toList.isEmpty = true := by kernel_rfl
  go_enter Tryf.func4, Tryf.ntmps4
  go_wp2_with (go_at_call 8; refine (bytes4_any _ _ _ _ _ _ _ _).mono ?_; rw [hd]; rintro e w' ⟨rfl, rfl⟩)
  refine (swap_no _ _ _ _ _ hs).mono ?_
  rintro e w1 ⟨rfl, hb1⟩
  go_wp2_with fail
  refine (swap_no _ _ _ _ _ hs).mono ?_
  rintro e w2 ⟨rfl, hb2⟩
  go_wp2_with fail
  refine (swap_yes _ _ _ _ _ he).mono ?_
  rintro e w3 ⟨p, rfl, hb3⟩
  go_wp2_with fail
  go_quiet (fail)
  go_wp2
  go_ret
  exact ⟨rfl, below_drewN ((hb1.trans (hb2.mono hb1.size)).trans (hb3.mono (Nat.le_trans hb1.size hb2.size))) _⟩
set_option maxRecDepth 100000 in
set_option maxHeartbeats 400000 in
theorem law4_yes (t1 : Int) (k1 : ByteArray) (m1 t2 : Int) (k2 : ByteArray) (m2 : Int) (fo : ByteArray) (w : World) (h : k1.size + k2.size + fo.size ≤ 1048576) (hs : fo.toList.isEmpty = true) :
    Calls Tryf.prog 4 #[.int .i64 t1, .string k1, .int .i64 m1, .int .i64 t2, .string k2, .int .i64 m2, .string fo] w fun e w' => e = .returned (.bool true) ∧ Below w.heap.size w w' := by
  have hd : decide (k1.size + k2.size + fo.size ≤ 1048576) = true := decide_eq_true h
  have i1 : ¬ (1048576 : Int) < (k1.size : Int) := by omega
  have i2 : ¬ (1048576 : Int) < (k2.size : Int) := by omega
  have i3 : ¬ (1048576 : Int) < (fo.size : Int) := by omega
  have i4 : ¬ (1048576 : Int) < (k1.size : Int) + (k2.size : Int) + (fo.size : Int) := by omega
  have he : (ByteArray.mk #[]).toList.isEmpty = true := by kernel_rfl
  go_enter Tryf.func4, Tryf.ntmps4
  go_wp2_with (go_at_call 8; refine (bytes4_any _ _ _ _ _ _ _ _).mono ?_; rw [hd]; rintro e w' ⟨rfl, rfl⟩)
  refine (swap_yes _ _ _ _ _ hs).mono ?_
  rintro e w1 ⟨p1, rfl, hb1⟩
  go_wp2_with fail
  refine (swap_yes _ _ _ _ _ hs).mono ?_
  rintro e w2 ⟨p2, rfl, hb2⟩
  go_wp2_with fail
  refine (swap_yes _ _ _ _ _ he).mono ?_
  rintro e w3 ⟨p, rfl, hb3⟩
  go_wp2_with fail
  go_quiet (fail)
  go_wp2
  go_ret
  exact ⟨rfl, below_drewN ((hb1.trans (hb2.mono hb1.size)).trans (hb3.mono (Nat.le_trans hb1.size hb2.size))) _⟩

theorem law4 (t1 : Int) (k1 : ByteArray) (m1 t2 : Int) (k2 : ByteArray) (m2 : Int) (fo : ByteArray) (w : World) :
    Calls Tryf.prog 4 #[.int .i64 t1, .string k1, .int .i64 m1, .int .i64 t2, .string k2, .int .i64 m2, .string fo] w fun e w' => e = .returned (.bool true) ∧ Below w.heap.size w w' := by
  by_cases h : k1.size + k2.size + fo.size ≤ 1048576
  · cases hs : fo.toList.isEmpty
    · exact law4_no t1 k1 m1 t2 k2 m2 fo w h hs
    · exact law4_yes t1 k1 m1 t2 k2 m2 fo w h hs
  · exact law4_long t1 k1 m1 t2 k2 m2 fo w h
end Go.Proofs.Qxb6615862aFmt
