/-
  FailureData in memory; THE WALKS OF addData, dataFits AND zzBytes_FnFailuresListIsFreshEachCall.
-/
import Derived.Test.Qxb6615933aFits
namespace Go.Proofs.Qxb6615933a
open Go.RowKit

/-- A FailureData. -/
structure FD where
  p : ByteArray
  m : ByteArray
  h : Bool
  e : ByteArray
  g : ByteArray

/-- The cells of a slice of FailureData. -/
def Fives (w : World) (b off n : Nat) (D : Nat → FD) : Prop :=
  ∀ i, i < n → w.cell? ⟨b, off + i * 5, none⟩ = some (.string (D i).p) ∧ w.cell? ⟨b, off + i * 5 + 1, none⟩ = some (.string (D i).m) ∧ w.cell? ⟨b, off + i * 5 + 2, none⟩ = some (.bool (D i).h) ∧
    w.cell? ⟨b, off + i * 5 + 3, none⟩ = some (.string (D i).e) ∧ w.cell? ⟨b, off + i * 5 + 4, none⟩ = some (.string (D i).g)

/-- A slice of FailureData: nil or empty, or its cells. -/
structure Arg5 (w : World) (a0 : Option Addr) (b off n : Nat) (D : Nat → FD) : Prop where
  bound : n ≤ 9223372036854775807
  addr : 0 < n → a0 = some ⟨b, off, none⟩
  low : 0 < n → b < w.heap.size
  cells : Fives w b off n D

theorem bcell {W w1 : World} {B : Nat} (hb : Below B W w1) : (∀ b o, b < B → w1.cell? ⟨b, o, none⟩ = W.cell? ⟨b, o, none⟩) ∧ (∀ b o, b < B → w1.frozen? ⟨b, o, none⟩ = W.frozen? ⟨b, o, none⟩) :=
  ⟨fun b o h => hb.cell (p := ⟨b, o, none⟩) h, fun b o h => hb.frozen (p := ⟨b, o, none⟩) h⟩

theorem Fives.later {w w' : World} {b off n : Nat} {D : Nat → FD} (h : Fives w b off n D) {B : Nat} (hl : b < B) (hb : Below B w w') : Fives w' b off n D := by
  intro i hi
  obtain ⟨c0, c1, c2, c3, c4⟩ := h i hi
  have k := (bcell hb).1
  exact ⟨(k _ _ hl).trans c0, (k _ _ hl).trans c1, (k _ _ hl).trans c2, (k _ _ hl).trans c3, (k _ _ hl).trans c4⟩

/-- The slice lies there still in a later world. -/
theorem Arg5.later {w w' : World} {a0 : Option Addr} {b off n : Nat} {D : Nat → FD} (h : Arg5 w a0 b off n D) {B : Nat} (hB : w.heap.size ≤ B) (hb : Below B w w') : Arg5 w' a0 b off n D := by
  refine ⟨h.bound, h.addr, fun hp => ?_, fun i hi => ?_⟩
  · have := h.low hp; have := hb.size; omega
  · have hl := h.low (by omega)
    exact h.cells.later (B := B) (by omega) hb i hi

set_option maxHeartbeats 1000000 in
theorem addData_any (t : Int) (d : FD) (w : World) (h0 : 0 ≤ t) (h1 : t ≤ 1048576) :
    Calls Try.prog 25 #[.int .i64 t, .agg #[.string d.p, .string d.m, .bool d.h, .string d.e, .string d.g]] w fun e w' => SumPost e ∧ w' = w.alloc (.cells #[.string d.p, .string d.m, .bool d.h, .string d.e, .string d.g] 35) := by
  go_enter Try.func25, Try.ntmps25
  go_wp2_with (go_at_call 24; refine (addLen_any _ _ _ (by omega) (by omega) (by omega)).mono ?_; rintro e w' ⟨⟨t1, ok1, a1, b1, rfl⟩, rfl⟩; cases ok1)
  all_goals go_ret2
  all_goals exact ⟨⟨_, _, by assumption, by assumption, rfl⟩, rfl⟩

set_option maxHeartbeats 1000000 in
theorem dataFits_pos (b off n cap : Nat) (D : Nat → FD) (d : FD) (w : World) (hn : n ≤ 9223372036854775807) (hlow : b < w.heap.size) (hc : Hid (Fives w b off n D)) :
    Calls Try.prog 13 #[.agg #[.string d.p, .string d.m, .bool d.h, .string d.e, .string d.g], .slice (some ⟨b, off, none⟩) n cap] w fun e w' => BoolPost e ∧ Below w.heap.size w w' := by
  go_enter Try.func13, Try.ntmps13
  go_wp2_with (go_at_call 25; refine (addData_any _ _ _ (by omega) (by omega)).mono ?_; rintro e w' ⟨⟨t1, ok1, a1, b1, rfl⟩, rfl⟩; cases ok1)
  · go_ret
    exact ⟨⟨_, rfl⟩, ((Below.refl _ w).alloc (Nat.le_refl _) _).alloc (by simp) _⟩
  go_loopw [5, 6, 7] (fun t o i wr => ∃ (k : Nat) (s : Int) (ok : Bool), k ≤ n ∧ i = .int .i64 k ∧ t = .int .i64 s ∧ o = .bool ok ∧ 0 ≤ s ∧ s ≤ 1048576 ∧ Hid (Below w.heap.size w wr)) (fun _ _ i _ => n - (intOf i).toNat)
  case atStart => exact ⟨0, _, true, Nat.zero_le _, rfl, rfl, rfl, by assumption, by assumption, ((Below.refl _ w).alloc (Nat.le_refl _) _).alloc (by simp) _⟩
  case round =>
    obtain ⟨k, s, ok, hk, rfl, rfl, rfl, h0, h1, hbw⟩ := hrel
    by_cases hlt : k < n
    · obtain ⟨c0, c1, c2, c3, c4⟩ := (hc.out.later hlow hbw.out) k hlt
      go_wp2_with (go_at_call 25; refine (addData_any _ (D k) _ (by omega) (by omega)).mono ?_; rintro e w' ⟨⟨t1, ok1, a1, b1, rfl⟩, rfl⟩; cases ok1)
      · go_ret
        exact ⟨⟨_, rfl⟩, hbw.out.alloc (by have := hbw.out.size; omega) _⟩
      · go_roundw
        case rel => exact ⟨k + 1, _, true, by omega, by go_num, rfl, rfl, by assumption, by assumption, hbw.out.alloc (by have := hbw.out.size; omega) _⟩
        case measure => simp [intOf]; omega
    · go_wp2
      go_ret
      exact ⟨⟨_, rfl⟩, hbw.out⟩

set_option maxHeartbeats 1000000 in
theorem dataFits_zero (a0 : Option Addr) (cap : Nat) (d : FD) (w : World) :
    Calls Try.prog 13 #[.agg #[.string d.p, .string d.m, .bool d.h, .string d.e, .string d.g], .slice a0 0 cap] w fun e w' => BoolPost e ∧ Below w.heap.size w w' := by
  go_enter Try.func13, Try.ntmps13
  go_wp2_with (go_at_call 25; refine (addData_any _ _ _ (by omega) (by omega)).mono ?_; rintro e w' ⟨⟨t1, ok1, a1, b1, rfl⟩, rfl⟩; cases ok1)
  · go_ret
    exact ⟨⟨_, rfl⟩, ((Below.refl _ w).alloc (Nat.le_refl _) _).alloc (by simp) _⟩
  go_loopw [5, 6, 7] (fun _ _ i wr => i = .int .i64 0 ∧ Hid (Below w.heap.size w wr)) (fun _ _ _ _ => 0)
  case atStart => exact ⟨rfl, ((Below.refl _ w).alloc (Nat.le_refl _) _).alloc (by simp) _⟩
  case round =>
    obtain ⟨rfl, hbw⟩ := hrel
    go_wp2
    go_ret
    exact ⟨⟨_, rfl⟩, hbw.out⟩

theorem dataFits_any {a0 : Option Addr} {b off n : Nat} {D : Nat → FD} (d : FD) (w : World) (cap : Nat) (h : Arg5 w a0 b off n D) :
    Calls Try.prog 13 #[.agg #[.string d.p, .string d.m, .bool d.h, .string d.e, .string d.g], .slice a0 n cap] w fun e w' => BoolPost e ∧ Below w.heap.size w w' := by
  rcases Nat.eq_zero_or_pos n with rfl | hp
  · exact dataFits_zero a0 cap d w
  · obtain rfl := h.addr hp
    exact dataFits_pos b off n cap D d w h.bound (h.low hp) h.cells

/-- What the guard on the total length gives. -/
structure Small (d : FD) (n : Nat) (D : Nat → FD) : Prop where
  hp : d.p.size ≤ 1048576
  hm : d.m.size ≤ 1048576
  hn : n ≤ 1048576
  tp : ∀ i, i < n → (D i).p.size ≤ 1048576
  tm : ∀ i, i < n → (D i).m.size ≤ 1048576

/-- A bool comes back; where it is true the data are small. -/
def GuardPost (d : FD) (n : Nat) (D : Nat → FD) (e : Ending) : Prop := e = .returned (.bool false) ∨ (e = .returned (.bool true) ∧ Small d n D)

theorem small_step {D : Nat → FD} {k : Nat} (h : ∀ j, j < k → (D j).p.size ≤ 1048576 ∧ (D j).m.size ≤ 1048576) (h1 : (D k).p.size ≤ 1048576) (h2 : (D k).m.size ≤ 1048576) :
    ∀ j, j < k + 1 → (D j).p.size ≤ 1048576 ∧ (D j).m.size ≤ 1048576 := by
  intro j hj
  by_cases e : j = k
  · subst e; exact ⟨h1, h2⟩
  · exact h j (by omega)

set_option maxRecDepth 100000 in
set_option maxHeartbeats 2000000 in
theorem zzFresh_pos (b off n cap : Nat) (D : Nat → FD) (d : FD) (w : World) (hlow : b < w.heap.size) (hc : Hid (Fives w b off n D)) :
    Calls Try.prog 21 #[.agg #[.string d.p, .string d.m, .bool d.h, .string d.e, .string d.g], .slice (some ⟨b, off, none⟩) n cap] w fun e w' => GuardPost d n D e ∧ Below w.heap.size w w' := by
  go_enter Try.func21, Try.ntmps21
  go_wp2
  iterate 9 (go_ret; exact ⟨Or.inl rfl, (Below.refl _ w).alloc (Nat.le_refl _) _⟩)
  go_loop [5, 6] (fun z i => ∃ (k : Nat) (s : Int), k ≤ n ∧ i = .int .i64 k ∧ z = .int .i64 s ∧ 0 ≤ s ∧ s ≤ 1048576 ∧ Hid (∀ j, j < k → (D j).p.size ≤ 1048576 ∧ (D j).m.size ≤ 1048576)) (fun _ i => n - (intOf i).toNat)
  case atStart => exact ⟨0, _, Nat.zero_le _, rfl, rfl, by omega, by omega, fun j h => absurd h (by omega)⟩
  case round =>
    obtain ⟨k, s, hk, rfl, rfl, h0, h1, hs⟩ := hrel
    by_cases hlt : k < n
    · obtain ⟨c0, c1, c2, c3, c4⟩ := (hc.out.later hlow ((Below.refl _ w).alloc (Nat.le_refl _) (.cells #[.string d.p, .string d.m, .bool d.h, .string d.e, .string d.g] 35))) k hlt
      go_wp2
      all_goals first
        | (go_ret; exact ⟨Or.inl rfl, (Below.refl _ w).alloc (Nat.le_refl _) _⟩)
        | (go_round
           case rel => exact ⟨k + 1, _, by omega, by go_num, rfl, by omega, by omega, small_step hs.out (by omega) (by omega)⟩
           case measure => simp [intOf]; omega)
    · go_wp2
      go_ret
      exact ⟨Or.inr ⟨rfl, by omega, by omega, by omega, fun i hi => (hs.out i (by omega)).1, fun i hi => (hs.out i (by omega)).2⟩, (Below.refl _ w).alloc (Nat.le_refl _) _⟩

set_option maxRecDepth 100000 in
set_option maxHeartbeats 2000000 in
theorem zzFresh_zero (a0 : Option Addr) (cap : Nat) (D : Nat → FD) (d : FD) (w : World) :
    Calls Try.prog 21 #[.agg #[.string d.p, .string d.m, .bool d.h, .string d.e, .string d.g], .slice a0 0 cap] w fun e w' => GuardPost d 0 D e ∧ Below w.heap.size w w' := by
  go_enter Try.func21, Try.ntmps21
  go_wp2
  iterate 7 (go_ret; exact ⟨Or.inl rfl, (Below.refl _ w).alloc (Nat.le_refl _) _⟩)
  go_loop [5, 6] (fun _ i => i = .int .i64 0) (fun _ _ => 0)
  case atStart => rfl
  case round =>
    obtain rfl := hrel
    go_wp2
    go_ret
    exact ⟨Or.inr ⟨rfl, by omega, by omega, by omega, fun i hi => absurd hi (by omega), fun i hi => absurd hi (by omega)⟩, (Below.refl _ w).alloc (Nat.le_refl _) _⟩

theorem zzFresh_any {a0 : Option Addr} {b off n : Nat} {D : Nat → FD} (d : FD) (w : World) (cap : Nat) (h : Arg5 w a0 b off n D) :
    Calls Try.prog 21 #[.agg #[.string d.p, .string d.m, .bool d.h, .string d.e, .string d.g], .slice a0 n cap] w fun e w' => GuardPost d n D e ∧ Below w.heap.size w w' := by
  rcases Nat.eq_zero_or_pos n with rfl | hp
  · exact zzFresh_zero a0 cap D d w
  · obtain rfl := h.addr hp
    exact zzFresh_pos b off n cap D d w (h.low hp) h.cells
end Go.Proofs.Qxb6615933a
