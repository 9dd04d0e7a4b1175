/-
  THE WALKS OF mkFailure, dataAt AND matches.
-/
import Derived.Test.Qxb6615933aData
namespace Go.Proofs.Qxb6615933a
open Go.RowKit

/-- The Err of the Failure that d describes. -/
def errOf (d : FD) : Value := if d.h then .iface 29 (.agg #[.string d.e, .string d.g, .nilIface]) else .nilIface
theorem errOf_true {p m e g : ByteArray} : errOf ⟨p, m, true, e, g⟩ = .iface 29 (.agg #[.string e, .string g, .nilIface]) := rfl
theorem errOf_false {p m e g : ByteArray} : errOf ⟨p, m, false, e, g⟩ = .nilIface := rfl
theorem errOf_isErr (d : FD) : IsErr (errOf d) := by
  unfold errOf
  cases d.h
  · exact Or.inl rfl
  · exact Or.inr ⟨_, rfl⟩

set_option maxHeartbeats 1000000 in
theorem mkFailure_any (d : FD) (w : World) :
    Calls Try.prog 15 #[.agg #[.string d.p, .string d.m, .bool d.h, .string d.e, .string d.g]] w fun e w' => e = .returned (.agg #[.string d.p, .string d.m, errOf d]) ∧ Below w.heap.size w w' := by
  obtain ⟨p, m, h, e, g⟩ := d
  cases h
  · simp only [errOf_false]
    go_enter Try.func15, Try.ntmps15
    go_wp2
    exact bodyPost_ret (v := .agg #[.string p, .string m, .nilIface]) (by simp [results, Try.results15, go_sem]) rfl ⟨rfl, ((Below.refl _ w).alloc (Nat.le_refl _) _).alloc (by simp) _⟩
  · simp only [errOf_true]
    go_enter Try.func15, Try.ntmps15
    go_wp2_with (go_at_call 9; refine (wrapping_any _ _ _ _ _ _).mono ?_; rintro e w' ⟨rfl, rfl⟩)
    exact bodyPost_ret (v := .agg #[.string p, .string m, .iface 29 (.agg #[.string e, .string g, .nilIface])]) (by simp [results, Try.results15, go_sem]) rfl ⟨rfl, ((((Below.refl _ w).alloc (Nat.le_refl _) _).alloc (by simp) _).alloc (by simp; omega) _).alloc (by simp; omega) _⟩

set_option maxHeartbeats 1000000 in
theorem dataAt_zero (d : FD) (a0 : Option Addr) (n cap : Nat) (w : World) :
    Calls Try.prog 19 #[.agg #[.string d.p, .string d.m, .bool d.h, .string d.e, .string d.g], .slice a0 n cap, .int .i64 0] w fun e w' => e = .returned (.agg #[.string d.p, .string d.m, .bool d.h, .string d.e, .string d.g]) ∧ Below w.heap.size w w' := by
  go_enter Try.func19, Try.ntmps19
  go_wp2
  exact bodyPost_ret (v := .agg #[.string d.p, .string d.m, .bool d.h, .string d.e, .string d.g]) (by simp [results, Try.results19, go_sem]) rfl ⟨rfl, ((Below.refl _ w).alloc (Nat.le_refl _) _).alloc (by simp) _⟩

set_option maxHeartbeats 1000000 in
theorem dataAt_succ (d : FD) (b off n cap : Nat) (D : Nat → FD) (k : Nat) (w : World) (hn : n ≤ 9223372036854775807) (hlow : b < w.heap.size) (hc : Hid (Fives w b off n D)) (hk : k < n) :
    Calls Try.prog 19 #[.agg #[.string d.p, .string d.m, .bool d.h, .string d.e, .string d.g], .slice (some ⟨b, off, none⟩) n cap, .int .i64 ((k : Int) + 1)] w fun e w' => e = .returned (.agg #[.string (D k).p, .string (D k).m, .bool (D k).h, .string (D k).e, .string (D k).g]) ∧ Below w.heap.size w w' := by
  obtain ⟨c0, c1, c2, c3, c4⟩ := hc.out k hk
  have hz : ((k : Int) + 1 == 0) = false := by simp; omega
  have g0 : b < w.heap.size + 1 := by omega
  have g1 : b < w.heap.size + 1 + 1 := by omega
  go_enter Try.func19, Try.ntmps19
  go_wp2
  exact bodyPost_ret (v := .agg #[.string (D k).p, .string (D k).m, .bool (D k).h, .string (D k).e, .string (D k).g]) (by simp [results, Try.results19, go_sem]) rfl ⟨rfl, ((Below.refl _ w).alloc (Nat.le_refl _) _).alloc (by simp) _⟩

set_option maxRecDepth 100000 in
set_option maxHeartbeats 1000000 in
theorem matches_any (d : FD) (w : World) :
    Calls Try.prog 20 #[.agg #[.string d.p, .string d.m, errOf d], .agg #[.string d.p, .string d.m, .bool d.h, .string d.e, .string d.g]] w fun e w' => e = .returned (.bool true) ∧ Below w.heap.size w w' := by
  obtain ⟨p, m, h, e, g⟩ := d
  cases h
  · simp only [errOf_false]
    go_enter Try.func20, Try.ntmps20
    go_wp2
    go_ret
    exact ⟨rfl, ((Below.refl _ w).alloc (Nat.le_refl _) _).alloc (by simp) _⟩
  · simp only [errOf_true]
    go_enter Try.func20, Try.ntmps20
    go_wp2_with (go_at_call 11; refine (asFailure_any _ _ _ _ (Or.inl rfl)).mono ?_; rintro e w' ⟨rfl, rfl⟩)
    go_ret
    exact ⟨rfl, (((((Below.refl _ w).alloc (Nat.le_refl _) _).alloc (by simp) _).alloc (by simp; omega) _).alloc (by simp; omega) _).alloc (by simp; omega) _⟩
end Go.Proofs.Qxb6615933a
