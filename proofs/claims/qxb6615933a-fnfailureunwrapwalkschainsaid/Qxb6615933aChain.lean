/-
  THE LAW's WALK: FnFailureUnwrapWalksChain.
-/
import Derived.Test.Qxb6615933aFits
import Derived.Deep.RegionWith
import Derived.BigRegion
import Derived.Deep.QuietTactic
import Derived.BigQuiet
import Derived.WalkSmall
namespace Go.Proofs.Qxb6615933a
open Go.RowKit

/-- The error value that holds k failures, those from index i on, each wrapping the next. -/
def errV (P M : Nat → ByteArray) : Nat → Nat → Value
  | _, 0 => .nilIface
  | i, k + 1 => .iface 29 (.agg #[.string (P i), .string (M i), errV P M (i + 1) k])

theorem bcell {W w1 : World} {B : Nat} (hb : Below B W w1) : (∀ b o, b < B → w1.cell? ⟨b, o, none⟩ = W.cell? ⟨b, o, none⟩) ∧ (∀ b o, b < B → w1.frozen? ⟨b, o, none⟩ = W.frozen? ⟨b, o, none⟩) :=
  ⟨fun b o h => hb.cell (p := ⟨b, o, none⟩) h, fun b o h => hb.frozen (p := ⟨b, o, none⟩) h⟩

/-- The variable 'cur' (its block is the first behind w2): a failure lies in it; what is below is as in w2. -/
structure Cur (w2 wr : World) (p m : ByteArray) (x : Value) : Prop where
  c0 : wr.cell? ⟨w2.heap.size, 0, none⟩ = some (.string p)
  c1 : wr.cell? ⟨w2.heap.size, 1, none⟩ = some (.string m)
  c2 : wr.cell? ⟨w2.heap.size, 2, none⟩ = some x
  f0 : wr.frozen? ⟨w2.heap.size, 0, none⟩ = false
  f1 : wr.frozen? ⟨w2.heap.size, 1, none⟩ = false
  f2 : wr.frozen? ⟨w2.heap.size, 2, none⟩ = false
  size : w2.heap.size < wr.heap.size
  old : Below w2.heap.size w2 wr

theorem cur_start (w2 : World) (p m : ByteArray) {x : Value} (hx : x = .nilIface) : Cur w2 (w2.alloc (.cells #[.string p, .string m, .nilIface] 29)).drew p m x := by
  subst hx
  exact ⟨by simp, by simp, by simp, by simp, by simp, by simp, by simp, ((Below.refl _ w2).alloc (Nat.le_refl _) _).drew⟩

theorem cur_round {w2 wr : World} {p m p' m' : ByteArray} {x y z : Value} (h : Cur w2 wr p m x) (O1 O2 : Obj) (e : z = y) :
    Cur w2 (((((wr.setCell ⟨w2.heap.size, 0, none⟩ (.string p')).setCell ⟨w2.heap.size, 1, none⟩ (.string m')).setCell ⟨w2.heap.size, 2, none⟩ y).alloc O1).alloc O2).drew p' m' z := by
  subst e
  obtain ⟨c0, c1, c2, f0, f1, f2, s, o⟩ := h
  have s1 : w2.heap.size < wr.heap.size + 1 := by omega
  refine ⟨by simp [go_sem, *], by simp [go_sem, *], by simp [go_sem, *], by simp [go_sem, *], by simp [go_sem, *], by simp [go_sem, *], by simp; omega, ?_⟩
  exact ((((((o.setCell (by simp) _).setCell (by simp) _).setCell (by simp) _).alloc (by simp; omega) _).alloc (by simp; omega) _).drew)

theorem errV_step (P M : Nat → ByteArray) {j m : Nat} (h : j + 1 ≤ m) : errV P M (j + 1) (m - j) = .iface 29 (.agg #[.string (P (j + 1)), .string (M (j + 1)), errV P M (j + 1 + 1) (m - (j + 1))]) := by
  rw [show m - j = (m - (j + 1)) + 1 by omega, errV]

theorem errV_isErr (P M : Nat → ByteArray) (i k : Nat) : IsErr (errV P M i k) := by
  cases k with
  | zero => exact Or.inl rfl
  | succ k => exact Or.inr ⟨_, rfl⟩

theorem step_below {w wr : World} (h : Below w.heap.size w wr) (O1 O2 O3 O4 : Obj) (n : Nat) : Below w.heap.size w (((((wr.alloc O1).alloc O2).alloc O3).alloc O4).drewN n) := by
  have := h.size
  exact below_drewN ((((h.alloc (by omega) _).alloc (by simp; omega) _).alloc (by simp; omega) _).alloc (by simp; omega) _) n

set_option maxRecDepth 100000 in
set_option maxHeartbeats 1000000 in
theorem chain_pos (b off m cap : Nat) (P M : Nat → ByteArray) (tp tm : ByteArray) (w : World) (hn : m + 1 ≤ 9223372036854775807) (hlow : b < w.heap.size) (hc : Hid (Pairs w b off (m + 1) P M)) :
    Calls Try.prog 3 #[.agg #[.string tp, .string tm], .slice (some ⟨b, off, none⟩) (m + 1) cap] w fun e w' => e = .returned (.bool true) ∧ Below w.heap.size w w' := by
  have hA : Hid (Arg w (some ⟨b, off, none⟩) b off (m + 1) P M) := ⟨hn, fun _ => rfl, fun _ => hlow, hc.out⟩
  go_enter Try.func3, Try.ntmps3
  go_wp2_with fail
  refine (zzChain_any tp tm _ cap (hA.out.later (Nat.le_refl _) ((Below.refl _ w).alloc (Nat.le_refl _) _))).mono ?_
  rintro e w1 ⟨⟨ok, rfl⟩, hb1⟩
  cases ok
  · go_wp2
    go_ret
    exact ⟨rfl, ((Below.refl _ w).alloc (Nat.le_refl _) _).trans (hb1.mono (by simp))⟩
  have hb01 : Hid (Below w.heap.size w w1) := ((Below.refl _ w).alloc (Nat.le_refl _) _).trans (hb1.mono (by simp))
  have hA1 : Hid (Arg w1 (some ⟨b, off, none⟩) b off (m + 1) P M) := hA.out.later (Nat.le_refl _) hb01.out
  have t0 : w1.cell? ⟨w.heap.size, 0, none⟩ = some (.string tp) := ((bcell hb1).1 _ _ (by simp)).trans (by simp)
  have t1 : w1.cell? ⟨w.heap.size, 1, none⟩ = some (.string tm) := ((bcell hb1).1 _ _ (by simp)).trans (by simp)
  have hz1 : w.heap.size < w1.heap.size := by have := hb1.size; simp at this; omega
  clear hb1
  go_wp2_with fail
  refine (chainFits_any tp tm _ cap hA1).mono ?_
  rintro e w2 ⟨⟨ok, rfl⟩, hb2⟩
  cases ok
  · go_wp2
    go_ret
    exact ⟨rfl, hb01.out.trans (hb2.mono (by omega))⟩
  have hb02 : Hid (Below w.heap.size w w2) := hb01.out.trans (hb2.mono (by omega))
  have hA2 : Hid (Pairs w2 b off (m + 1) P M) := (hA1.out.later (Nat.le_refl _) hb2).cells
  have t20 : w2.cell? ⟨w.heap.size, 0, none⟩ = some (.string tp) := ((bcell hb2).1 _ _ hz1).trans t0
  have t21 : w2.cell? ⟨w.heap.size, 1, none⟩ = some (.string tm) := ((bcell hb2).1 _ _ hz1).trans t1
  have hz2 : w.heap.size < w2.heap.size := by have := hb2.size; omega
  have hbl : b < w2.heap.size := by have := hb02.out.size; omega
  obtain ⟨d0, d1⟩ := hA2.out m (by omega)
  have c0 : ∀ O : Obj, (w2.alloc O).cell? ⟨b, off + m * 2, none⟩ = some (.string (P m)) := fun O => (((Below.refl _ w2).alloc (Nat.le_refl _) O).cell (p := ⟨b, off + m * 2, none⟩) hbl).trans d0
  have c1 : ∀ O : Obj, (w2.alloc O).cell? ⟨b, off + m * 2 + 1, none⟩ = some (.string (M m)) := fun O => (((Below.refl _ w2).alloc (Nat.le_refl _) O).cell (p := ⟨b, off + m * 2 + 1, none⟩) hbl).trans d1
  clear hb2 t0 t1 hz1 hb01 hA1 hA d0 d1
  go_wp2_with fail
  go_region
  all_goals go_wp2_with fail
  go_loopw [7] (fun i wr => ∃ (j : Nat) (iv : Int), j ≤ m ∧ i = .int .i64 iv ∧ Hid (iv = (j : Int) - 1) ∧ Hid (Cur w2 wr (P j) (M j) (errV P M (j + 1) (m - j)))) (fun i _ => (intOf i + 1).toNat)
  case atStart => exact ⟨m, _, Nat.le_refl _, rfl, (by show _ = _; omega), cur_start w2 (P m) (M m) (by simp [errV])⟩
  case round =>
    obtain ⟨j, iv, hj, rfl, hiv, hcur⟩ := hrel
    have hbb := bcell hcur.out.old
    obtain ⟨hbc, hbf⟩ := hbb
    by_cases hp : 0 < j
    · obtain ⟨j, rfl⟩ : ∃ j', j = j' + 1 := ⟨j - 1, by omega⟩
      obtain rfl : iv = (j : Int) := by have := hiv.out; omega
      have q0 := hcur.out.c0
      have q1 := hcur.out.c1
      have q2 := hcur.out.c2
      have f0 := hcur.out.f0
      have f1 := hcur.out.f1
      have f2 := hcur.out.f2
      have s0 := hcur.out.size
      have ji : (j : Int) < (m : Int) + 1 := by omega
      have jz : (0 : Int) ≤ (j : Int) := by omega
      have g0 : b < wr.heap.size := by omega
      have g1 : b < wr.heap.size + 1 := by omega
      have s1 : w2.heap.size < wr.heap.size + 1 := by omega
      have s2 : w2.heap.size < wr.heap.size + 1 + 1 := by omega
      obtain ⟨d0, d1⟩ := hA2.out j (by omega)
      have e0 : wr.cell? ⟨b, off + j * 2, none⟩ = some (.string (P j)) := (hbc _ _ hbl).trans d0
      have e1 : wr.cell? ⟨b, off + j * 2 + 1, none⟩ = some (.string (M j)) := (hbc _ _ hbl).trans d1
      clear hbc hbf d0 d1 c0 c1
      go_wp2_with fail
      go_region_with (go_at_call 9; refine (wrapping_any _ _ _ _ _ _).mono ?_; rintro e w' ⟨rfl, rfl⟩)
      all_goals
        go_wp2_with fail
        go_roundw
        case rel => (repeat apply Exists.intro); exact ⟨⟨j, _, by omega, rfl, rfl, cur_round hcur.out _ _ (errV_step P M (by omega))⟩, rfl⟩
        case measure => simp [intOf]
    · obtain rfl : j = 0 := by omega
      obtain rfl : iv = -1 := by have := hiv.out; omega
      have q0 := hcur.out.c0
      have q1 := hcur.out.c1
      have q2 := hcur.out.c2
      have f0 := hcur.out.f0
      have f1 := hcur.out.f1
      have f2 := hcur.out.f2
      have s0 := hcur.out.size
      have s1 : w2.heap.size < wr.heap.size + 1 := by omega
      have s2 : w2.heap.size < wr.heap.size + 1 + 1 := by omega
      have r0 : wr.cell? ⟨w.heap.size, 0, none⟩ = some (.string tp) := (hbc _ _ hz2).trans t20
      have r1 : wr.cell? ⟨w.heap.size, 1, none⟩ = some (.string tm) := (hbc _ _ hz2).trans t21
      clear hbc hbf c0 c1
      go_wp2_with (first | (go_at_call 9; refine (wrapping_any _ _ _ _ _ _).mono ?_; rintro e w' ⟨rfl, rfl⟩) | (go_at_call 10; refine (unwrap_any _ _ _ _).mono ?_; rintro e w' ⟨rfl, rfl⟩))
      have hbe : Hid (∀ (y0 y1 y2 : Value) (O1 O2 O3 : Obj), Below w.heap.size w ((((((wr.setCell ⟨w2.heap.size, 0, none⟩ y0).setCell ⟨w2.heap.size, 1, none⟩ y1).setCell ⟨w2.heap.size, 2, none⟩ y2).alloc O1).alloc O2).alloc O3)) := by
        intro y0 y1 y2 O1 O2 O3
        have hbw := hb02.out.trans (hcur.out.old.mono (by omega))
        exact (((((hbw.setCell (by simp; omega) _).setCell (by simp; omega) _).setCell (by simp; omega) _).alloc (by simp; omega) _).alloc (by simp; omega) _).alloc (by simp; omega) _
      clear q0 q1 q2 f0 f1 f2 s0 s1 s2 r0 r1 hj hiv hcur hp
      go_loopw [8, 9] (fun x i wr => ∃ (k : Nat), k ≤ m + 1 ∧ i = .int .i64 k ∧ Hid (x = errV P M k (m + 1 - k)) ∧ Hid (Below w.heap.size w wr)) (fun _ i _ => m + 1 - (intOf i).toNat)
      case atStart => exact ⟨0, by omega, rfl, rfl, hbe.out _ _ _ _ _ _⟩
      case round =>
        obtain ⟨k, hk, rfl, hx, hbw⟩ := hrel
        clear hbe hb02 hA2 t20 t21
        obtain ⟨hbc, hbf⟩ := bcell hbw.out
        by_cases hlt : k < m + 1
        · obtain ⟨d0, d1⟩ := hc.out k hlt
          have e0 : wr.cell? ⟨b, off + k * 2, none⟩ = some (.string (P k)) := (hbc _ _ hlow).trans d0
          have e1 : wr.cell? ⟨b, off + k * 2 + 1, none⟩ = some (.string (M k)) := (hbc _ _ hlow).trans d1
          have g0 : b < wr.heap.size := by have := hbw.out.size; omega
          have g1 : b < wr.heap.size + 1 := by omega
          have g2 : b < wr.heap.size + 1 + 1 := by omega
          have g3 : b < wr.heap.size + 1 + 1 + 1 := by omega
          have ki : (k : Int) < (m : Int) + 1 := by omega
          have hx' := hx.out
          rw [show m + 1 - k = (m - k) + 1 by omega, errV] at hx'
          subst hx'
          clear hbc hbf d0 d1 hx
          rcases errV_isErr P M (k + 1) (m - k) with hX | ⟨y, hX⟩
          · have HX : Hid (.nilIface = errV P M (k + 1) (m + 1 - (k + 1))) := by rw [show m + 1 - (k + 1) = m - k by omega]; exact hX.symm
            rw [hX]
            clear hX
            go_wp2_with (first | (go_at_call 11; refine (asFailure_any _ _ _ _ (Or.inl rfl)).mono ?_; rintro e w' ⟨rfl, rfl⟩) | (go_at_call 10; refine (unwrap_any _ _ _ _).mono ?_; rintro e w' ⟨rfl, rfl⟩))
            go_quiet (fail)
            go_wp2_with (first | (go_at_call 11; refine (asFailure_any _ _ _ _ (Or.inl rfl)).mono ?_; rintro e w' ⟨rfl, rfl⟩) | (go_at_call 10; refine (unwrap_any _ _ _ _).mono ?_; rintro e w' ⟨rfl, rfl⟩))
            go_roundw
            case rel => first | exact ⟨k + 1, by omega, by go_num, HX, step_below hbw.out _ _ _ _ _⟩ | ((repeat apply Exists.intro); exact ⟨⟨k + 1, by omega, by go_num, HX, step_below hbw.out _ _ _ _ _⟩, rfl⟩)
            case measure => simp [intOf]; omega
          · have HX : Hid (.iface 29 y = errV P M (k + 1) (m + 1 - (k + 1))) := by rw [show m + 1 - (k + 1) = m - k by omega]; exact hX.symm
            rw [hX]
            clear hX
            go_wp2_with (first | (go_at_call 11; refine (asFailure_any _ _ _ _ (Or.inr ⟨_, rfl⟩)).mono ?_; rintro e w' ⟨rfl, rfl⟩) | (go_at_call 10; refine (unwrap_any _ _ _ _).mono ?_; rintro e w' ⟨rfl, rfl⟩))
            go_quiet (fail)
            go_wp2_with (first | (go_at_call 11; refine (asFailure_any _ _ _ _ (Or.inr ⟨_, rfl⟩)).mono ?_; rintro e w' ⟨rfl, rfl⟩) | (go_at_call 10; refine (unwrap_any _ _ _ _).mono ?_; rintro e w' ⟨rfl, rfl⟩))
            go_roundw
            case rel => first | exact ⟨k + 1, by omega, by go_num, HX, step_below hbw.out _ _ _ _ _⟩ | ((repeat apply Exists.intro); exact ⟨⟨k + 1, by omega, by go_num, HX, step_below hbw.out _ _ _ _ _⟩, rfl⟩)
            case measure => simp [intOf]; omega
        · obtain rfl : k = m + 1 := by omega
          have hx' := hx.out
          rw [Nat.sub_self, errV] at hx'
          subst hx'
          clear hbc hbf hx
          go_wp2
          go_ret
          exact ⟨rfl, hbw.out⟩

set_option maxRecDepth 100000 in
set_option maxHeartbeats 1000000 in
theorem chain_zero (a0 : Option Addr) (cap : Nat) (tp tm : ByteArray) (w : World) :
    Calls Try.prog 3 #[.agg #[.string tp, .string tm], .slice a0 0 cap] w fun e w' => e = .returned (.bool true) ∧ Below w.heap.size w w' := by
  go_enter Try.func3, Try.ntmps3
  go_wp2_with fail
  refine (zzChain_zero a0 cap tp tm _).mono ?_
  rintro e w1 ⟨⟨ok, rfl⟩, hb1⟩
  cases ok
  · go_wp2
    go_ret
    exact ⟨rfl, ((Below.refl _ w).alloc (Nat.le_refl _) _).trans (hb1.mono (by simp))⟩
  have hb01 : Hid (Below w.heap.size w w1) := ((Below.refl _ w).alloc (Nat.le_refl _) _).trans (hb1.mono (by simp))
  have hA1 : Hid (Arg w1 a0 0 0 0 (fun _ => ByteArray.empty) (fun _ => ByteArray.empty)) := ⟨by omega, fun h => absurd h (by omega), fun h => absurd h (by omega), fun i h => absurd h (by omega)⟩
  have t0 : w1.cell? ⟨w.heap.size, 0, none⟩ = some (.string tp) := ((bcell hb1).1 _ _ (by simp)).trans (by simp)
  have t1 : w1.cell? ⟨w.heap.size, 1, none⟩ = some (.string tm) := ((bcell hb1).1 _ _ (by simp)).trans (by simp)
  have hz1 : w.heap.size < w1.heap.size := by have := hb1.size; simp at this; omega
  clear hb1
  go_wp2_with fail
  refine (chainFits_any tp tm _ cap hA1).mono ?_
  rintro e w2 ⟨⟨ok, rfl⟩, hb2⟩
  cases ok
  · go_wp2
    go_ret
    exact ⟨rfl, hb01.out.trans (hb2.mono (by omega))⟩
  have hb02 : Hid (Below w.heap.size w w2) := hb01.out.trans (hb2.mono (by omega))
  have t20 : w2.cell? ⟨w.heap.size, 0, none⟩ = some (.string tp) := ((bcell hb2).1 _ _ hz1).trans t0
  have t21 : w2.cell? ⟨w.heap.size, 1, none⟩ = some (.string tm) := ((bcell hb2).1 _ _ hz1).trans t1
  have hz2 : w.heap.size < w2.heap.size := by have := hb2.size; omega
  clear hb2 t0 t1 hz1 hb01 hA1
  go_wp2_with (go_at_call 10; refine (unwrap_any _ _ _ _).mono ?_; rintro e w' ⟨rfl, rfl⟩)
  go_loopw [8, 9] (fun x i wr => x = .nilIface ∧ i = .int .i64 0 ∧ Hid (Below w.heap.size w wr)) (fun _ _ _ => 0)
  case atStart => exact ⟨rfl, rfl, (hb02.out.alloc (by omega) _).alloc (by simp; omega) _⟩
  case round =>
    obtain ⟨rfl, rfl, hbw⟩ := hrel
    go_wp2
    go_ret
    exact ⟨rfl, hbw.out⟩

theorem chain_any {a0 : Option Addr} {b off n : Nat} {P M : Nat → ByteArray} (tp tm : ByteArray) (w : World) (cap : Nat) (h : Arg w a0 b off n P M) :
    Calls Try.prog 3 #[.agg #[.string tp, .string tm], .slice a0 n cap] w fun e w' => e = .returned (.bool true) ∧ Below w.heap.size w w' := by
  cases n with
  | zero => exact chain_zero a0 cap tp tm w
  | succ m =>
    obtain rfl := h.addr (by omega)
    exact chain_pos b off m cap P M tp tm w h.bound (h.low (by omega)) h.cells
end Go.Proofs.Qxb6615933a
