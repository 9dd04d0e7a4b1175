/-
  THE WALKS OF addPathMsgs, chainFits AND zzBytes_FnFailureUnwrapWalksChain: a bool comes back; old memory is as it was.
-/
import Derived.Test.Qxb6615933aSmall
namespace Go.Proofs.Qxb6615933a
open Go.RowKit

/-- The cells of a slice of PathMsg. -/
def Pairs (w : World) (b off n : Nat) (P M : Nat → ByteArray) : Prop :=
  ∀ i, i < n → w.cell? ⟨b, off + i * 2, none⟩ = some (.string (P i)) ∧ w.cell? ⟨b, off + i * 2 + 1, none⟩ = some (.string (M i))

set_option maxHeartbeats 1000000 in
theorem addPathMsgs_pos (b off n cap : Nat) (P M : Nat → ByteArray) (w : World) (hn : n ≤ 9223372036854775807) (hc : Hid (Pairs w b off n P M)) :
    Calls Try.prog 23 #[.int .i64 0, .slice (some ⟨b, off, none⟩) n cap] w fun e w' => SumPost e ∧ w' = w := by
  go_enter Try.func23, Try.ntmps23
  go_wp2
  go_loop [6, 7, 8] (fun t o i => ∃ (k : Nat) (s : Int) (ok : Bool), k ≤ n ∧ i = .int .i64 k ∧ t = .int .i64 s ∧ o = .bool ok ∧ 0 ≤ s ∧ s ≤ 1048576) (fun _ _ i => n - (intOf i).toNat)
  case atStart => exact ⟨0, 0, false, Nat.zero_le _, rfl, rfl, rfl, by omega, by omega⟩
  case round =>
    obtain ⟨k, s, ok, hk, rfl, rfl, rfl, h0, h1⟩ := hrel
    by_cases hlt : k < n
    · obtain ⟨c0, c1⟩ := hc.out k hlt
      go_wp2_with (go_at_call 24; refine (addLen_any _ _ _ (by omega) (by omega) (by omega)).mono ?_; rintro e w' ⟨⟨t1, ok1, a1, b1, rfl⟩, rfl⟩; cases ok1)
      all_goals first
        | (go_ret2; exact ⟨⟨0, false, by omega, by omega, rfl⟩, rfl⟩)
        | (go_round
           case rel => exact ⟨k + 1, _, true, by omega, by go_num, rfl, rfl, by assumption, by assumption⟩
           case measure => simp [intOf]; omega)
    · go_wp2
      go_ret2
      exact ⟨⟨s, true, h0, h1, rfl⟩, rfl⟩

set_option maxHeartbeats 400000 in
theorem addPathMsgs_zero (a0 : Option Addr) (cap : Nat) (w : World) :
    Calls Try.prog 23 #[.int .i64 0, .slice a0 0 cap] w fun e w' => SumPost e ∧ w' = w := by
  go_enter Try.func23, Try.ntmps23
  go_wp2
  go_loop [6, 7, 8] (fun t o i => ∃ (ok : Bool), i = .int .i64 0 ∧ t = .int .i64 0 ∧ o = .bool ok) (fun _ _ _ => 0)
  case atStart => exact ⟨false, rfl, rfl, rfl⟩
  case round =>
    obtain ⟨ok, rfl, rfl, rfl⟩ := hrel
    go_wp2
    go_ret2
    exact ⟨⟨0, true, by omega, by omega, rfl⟩, rfl⟩

/-- A slice of PathMsg: nil or empty, or its cells. -/
structure Arg (w : World) (a0 : Option Addr) (b off n : Nat) (P M : Nat → ByteArray) : Prop where
  bound : n ≤ 9223372036854775807
  addr : 0 < n → a0 = some ⟨b, off, none⟩
  low : 0 < n → b < w.heap.size
  cells : Pairs w b off n P M

theorem addPathMsgs_any {a0 : Option Addr} {b off n : Nat} {P M : Nat → ByteArray} {w : World} (cap : Nat) (h : Arg w a0 b off n P M) :
    Calls Try.prog 23 #[.int .i64 0, .slice a0 n cap] w fun e w' => SumPost e ∧ w' = w := by
  rcases Nat.eq_zero_or_pos n with rfl | hp
  · exact addPathMsgs_zero a0 cap w
  · obtain rfl := h.addr hp
    exact addPathMsgs_pos b off n cap P M w h.bound h.cells

/-- The slice lies there still in a later world. -/
theorem Arg.later {w w' : World} {a0 : Option Addr} {b off n : Nat} {P M : Nat → ByteArray} (h : Arg w a0 b off n P M) {B : Nat} (hB : w.heap.size ≤ B) (hb : Below B w w') : Arg w' a0 b off n P M := by
  refine ⟨h.bound, h.addr, fun hp => ?_, fun i hi => ?_⟩
  · have := h.low hp; have := hb.size; omega
  · have hl := h.low (by omega)
    obtain ⟨c0, c1⟩ := h.cells i hi
    exact ⟨(hb.cell (p := ⟨b, off + i * 2, none⟩) (by show b < B; omega)).trans c0, (hb.cell (p := ⟨b, off + i * 2 + 1, none⟩) (by show b < B; omega)).trans c1⟩

/-- A bool comes back. -/
def BoolPost (e : Ending) : Prop := ∃ ok : Bool, e = .returned (.bool ok)

set_option maxHeartbeats 400000 in
theorem chainFits_any {a0 : Option Addr} {b off n : Nat} {P M : Nat → ByteArray} (tp tm : ByteArray) (w : World) (cap : Nat) (h : Hid (Arg w a0 b off n P M)) :
    Calls Try.prog 8 #[.agg #[.string tp, .string tm], .slice a0 n cap] w fun e w' => BoolPost e ∧ Below w.heap.size w w' := by
  have hA : Hid (Arg (w.alloc (.cells #[.string tp, .string tm] 23)) a0 b off n P M) := h.out.later (Nat.le_refl _) ((Below.refl _ w).alloc (Nat.le_refl _) _)
  go_enter Try.func8, Try.ntmps8
  go_wp2_with (first
    | (go_at_call 23; refine (addPathMsgs_any cap hA.out).mono ?_; rintro e w' ⟨⟨t1, ok1, a1, b1, rfl⟩, rfl⟩; cases ok1)
    | (go_at_call 24; refine (addLen_any _ _ _ (by omega) (by omega) (by omega)).mono ?_; rintro e w' ⟨⟨t2, ok2, a2, b2, rfl⟩, rfl⟩; cases ok2))
  all_goals (go_ret; exact ⟨⟨_, rfl⟩, (Below.refl _ w).alloc (Nat.le_refl _) _⟩)

set_option maxHeartbeats 1000000 in
theorem zzChain_pos (b off n cap : Nat) (P M : Nat → ByteArray) (tp tm : ByteArray) (w : World) (hb : b < w.heap.size) (hc : Hid (Pairs w b off n P M)) :
    Calls Try.prog 7 #[.agg #[.string tp, .string tm], .slice (some ⟨b, off, none⟩) n cap] w fun e w' => BoolPost e ∧ Below w.heap.size w w' := by
  go_enter Try.func7, Try.ntmps7
  go_wp2
  iterate 5 (go_ret; exact ⟨⟨_, rfl⟩, (Below.refl _ w).alloc (Nat.le_refl _) _⟩)
  go_loop [5, 6] (fun z i => ∃ (k : Nat) (s : Int), k ≤ n ∧ i = .int .i64 k ∧ z = .int .i64 s ∧ 0 ≤ s ∧ s ≤ 1048576) (fun _ i => n - (intOf i).toNat)
  case atStart => exact ⟨0, _, Nat.zero_le _, rfl, rfl, by omega, by omega⟩
  case round =>
    obtain ⟨k, s, hk, rfl, rfl, h0, h1⟩ := hrel
    by_cases hlt : k < n
    · obtain ⟨d0, d1⟩ := hc.out k hlt
      have c0 : (w.alloc (.cells #[.string tp, .string tm] 23)).cell? ⟨b, off + k * 2, none⟩ = some (.string (P k)) := (((Below.refl _ w).alloc (Nat.le_refl _) _).cell (p := ⟨b, off + k * 2, none⟩) hb).trans d0
      have c1 : (w.alloc (.cells #[.string tp, .string tm] 23)).cell? ⟨b, off + k * 2 + 1, none⟩ = some (.string (M k)) := (((Below.refl _ w).alloc (Nat.le_refl _) _).cell (p := ⟨b, off + k * 2 + 1, none⟩) hb).trans d1
      go_wp2
      all_goals first
        | (go_ret; exact ⟨⟨_, rfl⟩, (Below.refl _ w).alloc (Nat.le_refl _) _⟩)
        | (go_round
           case rel => exact ⟨k + 1, _, by omega, by go_num, rfl, by omega, by omega⟩
           case measure => simp [intOf]; omega)
    · go_wp2
      go_ret
      exact ⟨⟨_, rfl⟩, (Below.refl _ w).alloc (Nat.le_refl _) _⟩

set_option maxHeartbeats 1000000 in
theorem zzChain_zero (a0 : Option Addr) (cap : Nat) (tp tm : ByteArray) (w : World) :
    Calls Try.prog 7 #[.agg #[.string tp, .string tm], .slice a0 0 cap] w fun e w' => BoolPost e ∧ Below w.heap.size w w' := by
  go_enter Try.func7, Try.ntmps7
  go_wp2
  iterate 3 (go_ret; exact ⟨⟨_, rfl⟩, (Below.refl _ w).alloc (Nat.le_refl _) _⟩)
  go_loop [5, 6] (fun _ i => i = .int .i64 0) (fun _ _ => 0)
  case atStart => rfl
  case round =>
    obtain rfl := hrel
    go_wp2
    go_ret
    exact ⟨⟨_, rfl⟩, (Below.refl _ w).alloc (Nat.le_refl _) _⟩

theorem zzChain_any {a0 : Option Addr} {b off n : Nat} {P M : Nat → ByteArray} (tp tm : ByteArray) (w : World) (cap : Nat) (h : Hid (Arg w a0 b off n P M)) :
    Calls Try.prog 7 #[.agg #[.string tp, .string tm], .slice a0 n cap] w fun e w' => BoolPost e ∧ Below w.heap.size w w' := by
  rcases Nat.eq_zero_or_pos n with rfl | hp
  · exact zzChain_zero a0 cap tp tm w
  · obtain rfl := h.out.addr hp
    exact zzChain_pos b off n cap P M tp tm w (h.out.low hp) h.out.cells
end Go.Proofs.Qxb6615933a
