/-
  THE WALK OF zzb1Itoa.
-/
import Derived.Test.Qxb6615862aFmtProg
import Derived.Test.Qxb6615862aFmtPlain
import Derived.WalkKit
import Derived.WalkSpells
import Derived.Deep.OwnRows
namespace Go.Proofs.Qxb6615862aFmt
open Go.RowKit Go.Deep

/-- The block 'buf' behind some rounds: from m on the bytes ds lie in it. -/
def Laid (w wr : World) (m : Nat) (ds : List UInt8) : Prop :=
  ∃ f, wr.rowIs w.heap.size 34 24 f ∧ (∀ j (h : j < ds.length), f (m + j) = .int .u8 (ds[j].toNat : Int)) ∧ Below w.heap.size w wr

theorem laid_start (w : World) : Laid w (w.alloc (.cells #[.int .u8 0, .int .u8 0, .int .u8 0, .int .u8 0, .int .u8 0, .int .u8 0, .int .u8 0, .int .u8 0, .int .u8 0, .int .u8 0, .int .u8 0, .int .u8 0, .int .u8 0, .int .u8 0, .int .u8 0, .int .u8 0, .int .u8 0, .int .u8 0, .int .u8 0, .int .u8 0, .int .u8 0, .int .u8 0, .int .u8 0, .int .u8 0] 34)) 24 [] := by
  refine ⟨fun _ => .int .u8 0, World.rowIs_alloc w _ 34 _ ?_, fun j h => by simp at h, (Below.refl _ w).alloc (Nat.le_refl _) _⟩
  intro i hi
  have e : (#[.int .u8 0, .int .u8 0, .int .u8 0, .int .u8 0, .int .u8 0, .int .u8 0, .int .u8 0, .int .u8 0, .int .u8 0, .int .u8 0, .int .u8 0, .int .u8 0, .int .u8 0, .int .u8 0, .int .u8 0, .int .u8 0, .int .u8 0, .int .u8 0, .int .u8 0, .int .u8 0, .int .u8 0, .int .u8 0, .int .u8 0, .int .u8 0] : Array Value) = Array.replicate 24 (.int .u8 0) := rfl
  rw [e] at hi ⊢
  rw [Array.size_replicate] at hi
  rw [Array.getElem?_replicate, if_pos hi]

theorem laid_round {w wr : World} {m' : Nat} {ds : List UInt8} {f : Nat → Value} {v : Nat} (hB : ∀ j (h : j < ds.length), f (m' + 1 + j) = .int .u8 (ds[j].toNat : Int))
    (HR : wr.rowIs w.heap.size 34 24 f) (HB : Below w.heap.size w wr) : Laid w (wr.setCell ⟨w.heap.size, m', none⟩ (.int .u8 (48 + (v : Int) % 10))) m' (UInt8.ofNat (48 + v % 10) :: ds) := by
  refine ⟨_, HR.set m' _, ?_, HB.setCell (by simp) _⟩
  intro j h
  cases j with
  | zero => rw [if_pos (by omega), List.getElem_cons_zero, digit_toNat]
  | succ j =>
    rw [if_neg (by omega)]
    have := hB j (by simpa using h)
    rw [show m' + 1 + j = m' + (j + 1) by omega] at this
    simpa using this

theorem addr_add (B m j : Nat) : Addr.add ⟨B, m, none⟩ j = ⟨B, m + j, none⟩ := by
  unfold Addr.add
  split
  · next h => simp_all
  · rfl

theorem slice_at (B m n : Nat) (h : m + n = 24) (hn : 0 < n) (w : World) :
    (Instr.sliceAt 34 (.pointer (some ⟨B, 0, none⟩)) (some (.int .i64 (m : Int))) none none).run Tryf.prog w = .ok (.slice (some ⟨B, m, none⟩) n n) w := by
  have ht : Tryf.prog.underlying 34 = some (.array (Tryf.prog.arrayLen 34) (Tryf.prog.elem 34)) := by kernel_rfl
  have hl : Tryf.prog.arrayLen 34 = 24 := by kernel_rfl
  have he : (sizeOf (Tryf.prog.elem 34)).run Tryf.prog w = .ok 1 w := by kernel_rfl
  rw [run_sliceAt_array_l w 34 ⟨B, 0, none⟩ ht .i64 m (by omega) (by rw [hl]; omega), he, hl]
  simp only [Result.andThen, slicedAt, Int.toNat_natCast, Nat.mul_one]
  rw [if_neg (by omega), show 24 - m = n by omega, addr_add, Nat.zero_add]

/-- The tail of 'buf', as a string. -/
theorem laid_string {w wr : World} {m : Nat} {ds : List UInt8} (h : Laid w wr m ds) (hm : m + ds.length = 24) (cap : Nat) :
    (convert 36 9 (.slice (some ⟨w.heap.size, m, none⟩) ds.length cap)).run Tryf.prog wr = .ok (.string ⟨ds.toArray⟩) wr := by
  obtain ⟨f, hrow, hds, _⟩ := h
  refine run_convert_bytes_back wr 36 9 5 ⟨w.heap.size, m, none⟩ cap ds Tryf.underlying36 Tryf.underlying5 Tryf.underlying9 ?_
  intro j hj
  have := hrow.cell (i := m + j) (by omega)
  rw [hds j hj] at this
  rw [addr_add]
  exact this

set_option maxRecDepth 100000 in
set_option maxHeartbeats 400000 in
theorem itoa_pos (u : Nat) (w : World) (h0 : 0 < u) (h1 : u ≤ 9223372036854775807) :
    Calls Tryf.prog 7 #[.int .i64 (u : Int)] w fun e w' => e = .returned (.string ⟨(Lib.decDigits u).toArray⟩) ∧ Below w.heap.size w w' := by
  have hn : ¬ ((u : Int) < 0) := by omega
  have hz : ((u : Int) == 0) = false := by simp; omega
  go_enter Tryf.func7, Tryf.ntmps7
  go_wp2
  go_loopw [4, 5] (fun i x wr => ∃ (m v : Nat) (ds : List UInt8), i = .int .i64 m ∧ x = .int .u64 v ∧ v ≤ u ∧ m + ds.length = 24 ∧ Hid (dd u = dd v ++ ds) ∧ Hid (Laid w wr m ds)) (fun _ x _ => (intOf x).toNat)
  case atStart => exact ⟨24, u, [], rfl, rfl, Nat.le_refl _, rfl, (show dd u = dd u ++ [] by simp), laid_start w⟩
  case round =>
    obtain ⟨m, v, ds, rfl, rfl, hv, hm, hd, hl⟩ := hrel
    by_cases hp : 0 < v
    · have hr := dd_room (by omega) hp hd.out
      obtain ⟨f, hrow, hds, hb⟩ := hl.out
      have hB : Hid (∀ j (h : j < ds.length), f (m + j) = .int .u8 (ds[j].toNat : Int)) := hds
      have HB : Hid (Below w.heap.size w wr) := hb
      have HR : Hid (wr.rowIs w.heap.size 34 24 f) := hrow
      obtain ⟨m', rfl⟩ : ∃ m', m = m' + 1 := ⟨m - 1, by omega⟩
      have hc : wr.cell? ⟨w.heap.size, m', none⟩ = some (f m') := hrow.cell (by omega)
      have hf : wr.frozen? ⟨w.heap.size, m', none⟩ = false := hrow.frozen m'
      clear hds hb hrow
      go_wp2
      go_roundw
      case rel => exact ⟨m', v / 10, UInt8.ofNat (48 + v % 10) :: ds, rfl, by go_num, by omega, by simp; omega, dd_round hp hd.out, laid_round hB.out HR.out HB.out⟩
      case measure => simp [intOf]; omega
    · obtain rfl : v = 0 := by omega
      have hu : dd u = ds := by rw [hd.out]; rfl
      have hlen : 0 < ds.length := by rw [← hu]; exact dd_len_pos h0
      have hsl := slice_at w.heap.size m ds.length hm hlen
      have hcv := laid_string hl.out hm ds.length
      obtain ⟨_, _, _, hb⟩ := hl.out
      have HB : Hid (Below w.heap.size w wr) := hb
      have HU : Hid (ds = Lib.decDigits u) := by rw [← hu]; exact dd_pos h0
      clear hu hb
      go_wp2
      go_ret
      exact ⟨by rw [HU.out]; rfl, HB.out⟩

/-- The sign, put ahead of the digits. -/
theorem laid_sign {w wr : World} {m' : Nat} {ds : List UInt8} (h : Laid w wr (m' + 1) ds) : Laid w (wr.setCell ⟨w.heap.size, m', none⟩ (.int .u8 45)) m' (45 :: ds) := by
  obtain ⟨f, HR, hB, HB⟩ := h
  refine ⟨_, HR.set m' _, ?_, HB.setCell (by simp) _⟩
  intro j h
  cases j with
  | zero => rw [if_pos (by omega), List.getElem_cons_zero]; rfl
  | succ j =>
    rw [if_neg (by omega)]
    have := hB j (by simpa using h)
    rw [show m' + 1 + j = m' + (j + 1) by omega] at this
    simpa using this

set_option maxRecDepth 100000 in
set_option maxHeartbeats 400000 in
theorem itoa_neg (u : Nat) (w : World) (h0 : 0 < u) (h1 : u ≤ 9223372036854775808) :
    Calls Tryf.prog 7 #[.int .i64 (-(u : Int))] w fun e w' => e = .returned (.string ⟨(45 :: Lib.decDigits u).toArray⟩) ∧ Below w.heap.size w w' := by
  have hn : (-(u : Int)) < 0 := by omega
  have hz : ((u : Int) == 0) = false := by simp; omega
  have hw : IntKind.u64.wrap (-(IntKind.u64.wrap (-(u : Int)))) = u := by rw [IntKind.wrap_u64, IntKind.wrap_u64]; omega
  go_enter Tryf.func7, Tryf.ntmps7
  go_wp2
  clear hw
  go_loopw [4, 5] (fun i x wr => ∃ (m v : Nat) (ds : List UInt8), i = .int .i64 m ∧ x = .int .u64 v ∧ v ≤ u ∧ m + ds.length = 24 ∧ Hid (dd u = dd v ++ ds) ∧ Hid (Laid w wr m ds)) (fun _ x _ => (intOf x).toNat)
  case atStart => exact ⟨24, u, [], rfl, rfl, Nat.le_refl _, rfl, (show dd u = dd u ++ [] by simp), laid_start w⟩
  case round =>
    obtain ⟨m, v, ds, rfl, rfl, hv, hm, hd, hl⟩ := hrel
    by_cases hp : 0 < v
    · have hr := dd_room (by omega) hp hd.out
      obtain ⟨f, hrow, hds, hb⟩ := hl.out
      have hB : Hid (∀ j (h : j < ds.length), f (m + j) = .int .u8 (ds[j].toNat : Int)) := hds
      have HB : Hid (Below w.heap.size w wr) := hb
      have HR : Hid (wr.rowIs w.heap.size 34 24 f) := hrow
      obtain ⟨m', rfl⟩ : ∃ m', m = m' + 1 := ⟨m - 1, by omega⟩
      have hc : wr.cell? ⟨w.heap.size, m', none⟩ = some (f m') := hrow.cell (by omega)
      have hf : wr.frozen? ⟨w.heap.size, m', none⟩ = false := hrow.frozen m'
      clear hds hb hrow
      go_wp2
      go_roundw
      case rel => exact ⟨m', v / 10, UInt8.ofNat (48 + v % 10) :: ds, rfl, by go_num, by omega, by simp; omega, dd_round hp hd.out, laid_round hB.out HR.out HB.out⟩
      case measure => simp [intOf]; omega
    · obtain rfl : v = 0 := by omega
      have hr := dd_room' h1 hd.out
      have hu : dd u = ds := by rw [hd.out]; rfl
      obtain ⟨m', rfl⟩ : ∃ m', m = m' + 1 := ⟨m - 1, by omega⟩
      have hls := laid_sign hl.out
      have hm2 : m' + (45 :: ds).length = 24 := by simp; omega
      have hsl := slice_at w.heap.size m' (45 :: ds).length hm2 (by simp)
      have hcv := laid_string hls hm2 (45 :: ds).length
      simp only [List.length_cons] at hsl hcv
      obtain ⟨_, _, _, hb⟩ := hls
      have HB : Hid (Below w.heap.size w (wr.setCell ⟨w.heap.size, m', none⟩ (.int .u8 45))) := hb
      have HU : Hid (ds = Lib.decDigits u) := by rw [← hu]; exact dd_pos h0
      obtain ⟨f, hrow, _, _⟩ := hl.out
      have hc : wr.cell? ⟨w.heap.size, m', none⟩ = some (f m') := hrow.cell (by omega)
      have hf : wr.frozen? ⟨w.heap.size, m', none⟩ = false := hrow.frozen m'
      clear hu hb hm2
      go_wp2
      go_ret
      exact ⟨by rw [HU.out]; rfl, HB.out⟩

set_option maxHeartbeats 400000 in
theorem itoa_zero (w : World) :
    Calls Tryf.prog 7 #[.int .i64 0] w fun e w' => e = .returned (.string ⟨#[48]⟩) ∧ Below w.heap.size w w' := by
  go_enter Tryf.func7, Tryf.ntmps7
  go_wp2
  go_ret
  exact ⟨rfl, (Below.refl _ w).alloc (Nat.le_refl _) _⟩

/-- zzb1Itoa IS THE DECIMAL NUMERAL. -/
theorem itoa_any (n : Int) (w : World) (h0 : -9223372036854775808 ≤ n) (h1 : n ≤ 9223372036854775807) :
    Calls Tryf.prog 7 #[.int .i64 n] w fun e w' => e = .returned (.string ⟨(Lib.itoa n).toArray⟩) ∧ Below w.heap.size w w' := by
  by_cases hz : n = 0
  · subst hz
    have e : Lib.itoa 0 = [48] := by unfold Lib.itoa; rw [if_neg (by omega)]; exact Lib.decDigits_one (by omega)
    rw [e]
    exact itoa_zero w
  · by_cases hn : n < 0
    · obtain ⟨u, rfl⟩ : ∃ u : Nat, n = -(u : Int) := ⟨n.natAbs, by omega⟩
      rw [Lib.itoa_neg u (by omega)]
      exact itoa_neg u w (by omega) (by omega)
    · obtain ⟨u, rfl⟩ : ∃ u : Nat, n = (u : Int) := ⟨n.toNat, by omega⟩
      rw [Lib.itoa_nonneg]
      exact itoa_pos u w (by omega) (by omega)
end Go.Proofs.Qxb6615862aFmt
