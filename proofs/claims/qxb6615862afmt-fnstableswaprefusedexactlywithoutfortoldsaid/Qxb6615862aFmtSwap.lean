/-
  THE WALKS OF big.NewInt, checkFor, Check AND ZZcheckSwap.
-/
import Derived.Test.Qxb6615862aFmtFacts
import Derived.WalkKit
import Derived.WalkSpells
namespace Go.Proofs.Qxb6615862aFmt
open Go.RowKit

set_option maxHeartbeats 400000 in
theorem errNew_any (s : ByteArray) (w : World) :
    Calls Tryf.prog 10 #[.string s] w fun e w' => e = .returned (.iface 53 (.pointer (some ⟨w.heap.size, 0, none⟩))) ∧ w' = w.alloc (.cells #[.string s] 55) := by
  go_enter Tryf.func10, Tryf.ntmps10
  go_wp2
  go_ret
  exact ⟨rfl, rfl⟩

set_option maxHeartbeats 400000 in
theorem newInt_any (n : Int) (w : World) : Calls Tryf.prog 13 #[.int .i64 n] w fun e w' => ∃ p : Addr, e = .returned (.pointer (some p)) ∧ Below w.heap.size w w' := by
  by_cases hz : n = 0
  · subst hz
    go_enter Tryf.func13, Tryf.ntmps13
    go_wp2
    go_ret
    exact ⟨_, rfl, (Below.refl _ w).alloc (Nat.le_refl _) _⟩
  · have hz' : (n == 0) = false := by simpa using hz
    by_cases hn : n < 0
    · go_enter Tryf.func13, Tryf.ntmps13
      go_wp2
      go_ret
      first | exact ⟨_, rfl, ((Below.refl _ w).alloc (Nat.le_refl _) _).alloc (by simp) _⟩ | exact ⟨⟨_, rfl⟩, ((Below.refl _ w).alloc (Nat.le_refl _) _).alloc (by simp) _⟩
    · go_enter Tryf.func13, Tryf.ntmps13
      go_wp2
      go_ret
      first | exact ⟨_, rfl, ((Below.refl _ w).alloc (Nat.le_refl _) _).alloc (by simp) _⟩ | exact ⟨⟨_, rfl⟩, ((Below.refl _ w).alloc (Nat.le_refl _) _).alloc (by simp) _⟩

set_option maxHeartbeats 400000 in
theorem checkFor_no (a : Addr) (s : ByteArray) (w : World) (hs : s.toList.isEmpty = false) : Calls Tryf.prog 15 #[.pointer (some a), .string s] w fun e w' => e = .returned .nilIface ∧ Below w.heap.size w w' := by
  go_enter Tryf.func15, Tryf.ntmps15
  go_wp2
  go_ret
  exact ⟨rfl, Below.refl _ _⟩

set_option maxHeartbeats 400000 in
theorem checkFor_yes (a : Addr) (s : ByteArray) (w : World) (hs : s.toList.isEmpty = true) : Calls Tryf.prog 15 #[.pointer (some a), .string s] w fun e w' => ∃ p : Addr, e = .returned (.iface 74 (.pointer (some p))) ∧ Below w.heap.size w w' := by
  go_enter Tryf.func15, Tryf.ntmps15
  go_wp2_with (go_at_call 10; refine (errNew_any _ _).mono ?_; rintro e w' ⟨rfl, rfl⟩)
  go_ret
  exact ⟨_, rfl, ((Below.refl _ w).alloc (Nat.le_refl _) _).alloc (by simp) _⟩

theorem assert52 (x : Value) (w : World) : (Instr.typeAssert (.iface 52 x) 58 52 true).run Tryf.prog w = .ok (.tuple #[x, .bool true]) w := by kernel_rfl

set_option maxRecDepth 100000 in
set_option maxHeartbeats 400000 in
theorem check_no (a p : Addr) (t : Int) (k s : ByteArray) (w : World) (hs : s.toList.isEmpty = false) :
    Calls Tryf.prog 12 #[.pointer (some a), .iface 52 (.agg #[.int .i64 t, .string k, .pointer (some p), .string s])] w fun e w' => e = .returned .nilIface ∧ Below w.heap.size w w' := by
  have ha := assert52
  go_enter Tryf.func12, Tryf.ntmps12
  go_wp2_with (go_at_call 15; refine (checkFor_no _ _ _ hs).mono ?_; rintro e w' ⟨rfl, hb⟩)
  go_ret
  exact ⟨rfl, ((Below.refl _ w).alloc (Nat.le_refl _) _).trans (hb.mono (by simp))⟩

set_option maxRecDepth 100000 in
set_option maxHeartbeats 400000 in
theorem check_yes (a p : Addr) (t : Int) (k s : ByteArray) (w : World) (hs : s.toList.isEmpty = true) :
    Calls Tryf.prog 12 #[.pointer (some a), .iface 52 (.agg #[.int .i64 t, .string k, .pointer (some p), .string s])] w fun e w' => ∃ p : Addr, e = .returned (.iface 74 (.pointer (some p))) ∧ Below w.heap.size w w' := by
  have ha := assert52
  go_enter Tryf.func12, Tryf.ntmps12
  go_wp2_with (go_at_call 15; refine (checkFor_yes _ _ _ hs).mono ?_; rintro e w' ⟨p', rfl, hb⟩)
  go_ret
  exact ⟨_, rfl, ((Below.refl _ w).alloc (Nat.le_refl _) _).trans (hb.mono (by simp))⟩

set_option maxRecDepth 100000 in
set_option maxHeartbeats 400000 in
theorem swap_no (t : Int) (k : ByteArray) (m : Int) (s : ByteArray) (w : World) (hs : s.toList.isEmpty = false) :
    Calls Tryf.prog 9 #[.int .i64 t, .string k, .int .i64 m, .string s] w fun e w' => e = .returned .nilIface ∧ Below w.heap.size w w' := by
  go_enter Tryf.func9, Tryf.ntmps9
  go_wp2_with (first | (go_at_call 13; refine (newInt_any _ _).mono ?_; rintro e w1 ⟨p, rfl, hb1⟩) | (go_at_call 12; refine (check_no _ _ _ _ _ _ hs).mono ?_; rintro e w2 ⟨rfl, hb2⟩))
  go_ret
  exact ⟨rfl, (((Below.refl _ w).alloc (Nat.le_refl _) _).trans (hb1.mono (by simp))).trans (hb2.mono (by have := hb1.size; simp at this; omega))⟩

set_option maxRecDepth 100000 in
set_option maxHeartbeats 400000 in
theorem swap_yes (t : Int) (k : ByteArray) (m : Int) (s : ByteArray) (w : World) (hs : s.toList.isEmpty = true) :
    Calls Tryf.prog 9 #[.int .i64 t, .string k, .int .i64 m, .string s] w fun e w' => ∃ p : Addr, e = .returned (.iface 74 (.pointer (some p))) ∧ Below w.heap.size w w' := by
  go_enter Tryf.func9, Tryf.ntmps9
  go_wp2_with (first | (go_at_call 13; refine (newInt_any _ _).mono ?_; rintro e w1 ⟨p, rfl, hb1⟩) | (go_at_call 12; refine (check_yes _ _ _ _ _ _ hs).mono ?_; rintro e w2 ⟨p2, rfl, hb2⟩))
  go_ret
  exact ⟨_, rfl, (((Below.refl _ w).alloc (Nat.le_refl _) _).trans (hb1.mono (by simp))).trans (hb2.mono (by have := hb1.size; simp at this; omega))⟩
end Go.Proofs.Qxb6615862aFmt
