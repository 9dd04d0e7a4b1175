/-
  THE WALKS OF buildTail, ZZnewSlice AND ZZnewFailures.
-/
import Derived.Test.Qxb6615933aMatch
import Derived.Deep.OwnRows
import Derived.BigRegion
namespace Go.Proofs.Qxb6615933a
open Go.RowKit Go.Deep

theorem info29 : (Try.prog.info? 29).map (fun i => (i.zero, i.size, i.bytes)) = some (some (.agg #[.string ⟨#[]⟩, .string ⟨#[]⟩, .nilIface]), 3, 48) := by kernel_rfl

/-- A new row of c failures, each the zero value. -/
def row29 (c : Nat) : Obj := .cells (madeCells #[.string ⟨#[]⟩, .string ⟨#[]⟩, .nilIface] (c * 3)) 29

theorem make29 (l c : Nat) (hlc : l ≤ c) (hc : c ≤ 2097152) (w : World) :
    (Instr.makeSlice 38 (.int .i64 (l : Int)) (.int .i64 (c : Int))).run Try.prog w = .ok (.slice (some ⟨w.heap.size, 0, none⟩) l c) (w.alloc (row29 c)) := by
  obtain ⟨i, hi, hzz⟩ := Option.map_eq_some_iff.1 info29
  simp only [Prod.mk.injEq] at hzz
  obtain ⟨hz, hs, hb⟩ := hzz
  have := run_make (P := Try.prog) w 38 29 i _ Try.underlying38 hi hz .i64 .i64 l c (by omega) (by omega) (by rw [hb]; omega) (by omega)
  rw [this, hs]
  simp only [Int.toNat_natCast, row29, Value.cells]

theorem row29_is (c : Nat) (w : World) : ∃ f, (w.alloc (row29 c)).rowIs w.heap.size 29 (c * 3) f := by
  have hs : (madeCells #[.string ⟨#[]⟩, .string ⟨#[]⟩, .nilIface] (c * 3)).size = c * 3 := size_madeCells _ _
  have := World.rowIs_alloc w (madeCells #[.string ⟨#[]⟩, .string ⟨#[]⟩, .nilIface] (c * 3)) 29 (fun i => (madeCells #[.string ⟨#[]⟩, .string ⟨#[]⟩, .nilIface] (c * 3))[i]?.getD undef) (by
    intro i hi
    rw [Array.getElem?_eq_getElem hi]
    rfl)
  rw [hs] at this
  exact ⟨_, this⟩

/-- The first k failures lie in the row of n at block B. -/
def Part (w : World) (B n k : Nat) (D : Nat → FD) : Prop :=
  ∃ f, w.rowIs B 29 (n * 3) f ∧ ∀ i, i < k → f (i * 3) = .string (D i).p ∧ f (i * 3 + 1) = .string (D i).m ∧ f (i * 3 + 2) = errOf (D i)

theorem Part.later {w w' : World} {B n k : Nat} {D : Nat → FD} (h : Part w B n k D) {C : Nat} (hB : B < C) (hb : Below C w w') : Part w' B n k D := by
  obtain ⟨f, hr, hf⟩ := h
  exact ⟨f, hr.of_block (hb.block B hB), hf⟩

theorem Part.step {w : World} {B n k : Nat} {D : Nat → FD} (h : Part w B n k D) {x : Value} (hx : x = errOf (D k)) :
    Part (((w.setCell ⟨B, k * 3, none⟩ (.string (D k).p)).setCell ⟨B, k * 3 + 1, none⟩ (.string (D k).m)).setCell ⟨B, k * 3 + 2, none⟩ x) B n (k + 1) D := by
  subst hx
  obtain ⟨f, hr, hf⟩ := h
  refine ⟨_, ((hr.set (k * 3) _).set (k * 3 + 1) _).set (k * 3 + 2) _, ?_⟩
  intro i hi
  by_cases e : i = k
  · subst e
    refine ⟨?_, ?_, ?_⟩
    · rw [if_neg (by omega), if_neg (by omega), if_pos rfl]
    · rw [if_neg (by omega), if_pos rfl]
    · rw [if_pos rfl]
  · obtain ⟨h0, h1, h2⟩ := hf i (by omega)
    refine ⟨?_, ?_, ?_⟩
    · rw [if_neg (by omega), if_neg (by omega), if_neg (by omega)]; exact h0
    · rw [if_neg (by omega), if_neg (by omega), if_neg (by omega)]; exact h1
    · rw [if_neg (by omega), if_neg (by omega), if_neg (by omega)]; exact h2

theorem Part.cells {w : World} {B n k : Nat} {D : Nat → FD} (h : Part w B n k D) {i : Nat} (hi : i < k) (hk : k ≤ n) :
    w.cell? ⟨B, i * 3, none⟩ = some (.string (D i).p) ∧ w.cell? ⟨B, i * 3 + 1, none⟩ = some (.string (D i).m) ∧ w.cell? ⟨B, i * 3 + 2, none⟩ = some (errOf (D i)) := by
  obtain ⟨f, hr, hf⟩ := h
  obtain ⟨h0, h1, h2⟩ := hf i hi
  exact ⟨by rw [← h0]; exact hr.cell (by omega), by rw [← h1]; exact hr.cell (by omega), by rw [← h2]; exact hr.cell (by omega)⟩

set_option maxRecDepth 100000 in
set_option maxHeartbeats 1000000 in
theorem buildTail_pos (b off n cap : Nat) (D : Nat → FD) (w : World) (hn : n ≤ 1048576) (hlow : b < w.heap.size) (hc : Hid (Fives w b off n D)) :
    Calls Try.prog 16 #[.slice (some ⟨b, off, none⟩) n cap] w fun e w' => e = .returned (.slice (some ⟨w.heap.size, 0, none⟩) n n) ∧ Part w' w.heap.size n n D ∧ w.heap.size < w'.heap.size ∧ Below w.heap.size w w' := by
  have hmk := make29 n n (Nat.le_refl _) (by omega)
  go_enter Try.func16, Try.ntmps16
  go_wp2
  go_loopw [4] (fun i wr => ∃ k : Nat, k ≤ n ∧ i = .int .i64 k ∧ Hid (Part wr w.heap.size n k D) ∧ w.heap.size < wr.heap.size ∧ Hid (Below w.heap.size w wr)) (fun i _ => n - (intOf i).toNat)
  case atStart => exact ⟨0, Nat.zero_le _, rfl, (by obtain ⟨f, hf⟩ := row29_is n w; exact ⟨f, hf, fun i h => absurd h (by omega)⟩), by simp, (Below.refl _ w).alloc (Nat.le_refl _) _⟩
  case round =>
    obtain ⟨k, hk, rfl, hp, hz, hbw⟩ := hrel
    by_cases hlt : k < n
    · obtain ⟨c0, c1, c2, c3, c4⟩ := (hc.out.later hlow hbw.out) k hlt
      clear hmk
      rcases errOf_isErr (D k) with hX | ⟨y, hX⟩
      · have HX : Hid (.nilIface = errOf (D k)) := hX.symm
        go_wp2_with fail
        refine (mkFailure_any (D k) _).mono ?_
        rw [hX]
        rintro e w' ⟨rfl, hb'⟩
        have hz' : w.heap.size < w'.heap.size := by have := hb'.size; omega
        have hp' : Hid (Part w' w.heap.size n k D) := hp.out.later hz hb'
        have hbw' : Hid (Below w.heap.size w w') := hbw.out.trans (hb'.mono (by omega))
        obtain ⟨f, hr, _⟩ := hp'.out
        have q0 : w'.cell? ⟨w.heap.size, k * 3, none⟩ = some (f (k * 3)) := hr.cell (by omega)
        have q1 : w'.cell? ⟨w.heap.size, k * 3 + 1, none⟩ = some (f (k * 3 + 1)) := hr.cell (by omega)
        have q2 : w'.cell? ⟨w.heap.size, k * 3 + 2, none⟩ = some (f (k * 3 + 2)) := hr.cell (by omega)
        have f0 := hr.frozen (k * 3)
        have f1 := hr.frozen (k * 3 + 1)
        have f2 := hr.frozen (k * 3 + 2)
        clear hr hb' hX c0 c1 c2 c3 c4
        go_wp2
        go_roundw
        case rel => exact ⟨k + 1, by omega, by go_num, hp'.out.step HX.out, by simpa using hz', ((hbw'.out.setCell (by simp) _).setCell (by simp) _).setCell (by simp) _⟩
        case measure => simp [intOf]; omega
      · have HX : Hid (.iface 29 y = errOf (D k)) := hX.symm
        go_wp2_with fail
        refine (mkFailure_any (D k) _).mono ?_
        rw [hX]
        rintro e w' ⟨rfl, hb'⟩
        have hz' : w.heap.size < w'.heap.size := by have := hb'.size; omega
        have hp' : Hid (Part w' w.heap.size n k D) := hp.out.later hz hb'
        have hbw' : Hid (Below w.heap.size w w') := hbw.out.trans (hb'.mono (by omega))
        obtain ⟨f, hr, _⟩ := hp'.out
        have q0 : w'.cell? ⟨w.heap.size, k * 3, none⟩ = some (f (k * 3)) := hr.cell (by omega)
        have q1 : w'.cell? ⟨w.heap.size, k * 3 + 1, none⟩ = some (f (k * 3 + 1)) := hr.cell (by omega)
        have q2 : w'.cell? ⟨w.heap.size, k * 3 + 2, none⟩ = some (f (k * 3 + 2)) := hr.cell (by omega)
        have f0 := hr.frozen (k * 3)
        have f1 := hr.frozen (k * 3 + 1)
        have f2 := hr.frozen (k * 3 + 2)
        clear hr hb' hX c0 c1 c2 c3 c4
        go_wp2
        go_roundw
        case rel => exact ⟨k + 1, by omega, by go_num, hp'.out.step HX.out, by simpa using hz', ((hbw'.out.setCell (by simp) _).setCell (by simp) _).setCell (by simp) _⟩
        case measure => simp [intOf]; omega
    · clear hmk
      obtain rfl : k = n := by omega
      go_wp2
      go_ret
      exact ⟨rfl, hp.out, hz, hbw.out⟩

theorem make29_nil (w : World) : (Instr.makeSlice 38 (.int .i64 0) (.int .i64 0)).run Try.prog w = .ok (.slice (some ⟨w.heap.size, 0, none⟩) 0 0) (w.alloc (row29 0)) := make29 0 0 (Nat.le_refl _) (by omega) w

set_option maxHeartbeats 1000000 in
theorem buildTail_zero (a0 : Option Addr) (cap : Nat) (D : Nat → FD) (w : World) :
    Calls Try.prog 16 #[.slice a0 0 cap] w fun e w' => e = .returned (.slice (some ⟨w.heap.size, 0, none⟩) 0 0) ∧ Part w' w.heap.size 0 0 D ∧ w.heap.size < w'.heap.size ∧ Below w.heap.size w w' := by
  have hmk := make29_nil
  go_enter Try.func16, Try.ntmps16
  go_wp2
  go_loopw [4] (fun i wr => i = .int .i64 0 ∧ Hid (Part wr w.heap.size 0 0 D) ∧ w.heap.size < wr.heap.size ∧ Hid (Below w.heap.size w wr)) (fun _ _ => 0)
  case atStart => exact ⟨rfl, (by obtain ⟨f, hf⟩ := row29_is 0 w; exact ⟨f, hf, fun i h => absurd h (by omega)⟩), by simp, (Below.refl _ w).alloc (Nat.le_refl _) _⟩
  case round =>
    obtain ⟨rfl, hp, hz, hbw⟩ := hrel
    clear hmk
    go_wp2
    go_ret
    exact ⟨rfl, hp.out, hz, hbw.out⟩

theorem buildTail_any {a0 : Option Addr} {b off n : Nat} {D : Nat → FD} (w : World) (cap : Nat) (hn : n ≤ 1048576) (h : Arg5 w a0 b off n D) :
    Calls Try.prog 16 #[.slice a0 n cap] w fun e w' => e = .returned (.slice (some ⟨w.heap.size, 0, none⟩) n n) ∧ Part w' w.heap.size n n D ∧ w.heap.size < w'.heap.size ∧ Below w.heap.size w w' := by
  rcases Nat.eq_zero_or_pos n with rfl | hp
  · exact buildTail_zero a0 cap D w
  · obtain rfl := h.addr hp
    exact buildTail_pos b off n cap D w hn (h.low hp) h.cells

set_option maxRecDepth 100000 in
set_option maxHeartbeats 1000000 in
theorem newSlice_any (p m : ByteArray) (x : Value) (B n : Nat) (w : World) (_hn : n ≤ 1048576) (hx : IsErr x) :
    Calls Try.prog 26 #[.agg #[.string p, .string m, x], .slice (some ⟨B, 0, none⟩) n n] w fun e w' => e = .returned (.agg #[.string p, .string m, x, .slice (some ⟨B, 0, none⟩) n n]) ∧ Below w.heap.size w w' := by
  rcases hx with rfl | ⟨y, rfl⟩
  · go_enter Try.func26, Try.ntmps26
    go_wp2
    go_region
    all_goals go_wp2
    all_goals exact bodyPost_ret (v := .agg #[.string p, .string m, .nilIface, .slice (some ⟨B, 0, none⟩) n n]) (by simp [results, Try.results26, go_sem]) rfl ⟨rfl, (((Below.refl _ w).alloc (Nat.le_refl _) _).alloc (by simp) _).drew⟩
  · go_enter Try.func26, Try.ntmps26
    go_wp2
    go_region
    all_goals go_wp2
    all_goals exact bodyPost_ret (v := .agg #[.string p, .string m, .iface 29 y, .slice (some ⟨B, 0, none⟩) n n]) (by simp [results, Try.results26, go_sem]) rfl ⟨rfl, (((Below.refl _ w).alloc (Nat.le_refl _) _).alloc (by simp) _).drew⟩

set_option maxRecDepth 100000 in
set_option maxHeartbeats 1000000 in
theorem newFailures_any (p m : ByteArray) (x : Value) (B n : Nat) (w : World) (hn : n ≤ 1048576) (hx : IsErr x) :
    Calls Try.prog 14 #[.agg #[.string p, .string m, x], .slice (some ⟨B, 0, none⟩) n n] w fun e w' => e = .returned (.agg #[.string p, .string m, x, .slice (some ⟨B, 0, none⟩) n n]) ∧ Below w.heap.size w w' := by
  rcases hx with rfl | ⟨y, rfl⟩
  · go_enter Try.func14, Try.ntmps14
    go_wp2_with fail
    refine (newSlice_any p m _ B n _ hn (Or.inl rfl)).mono ?_
    rintro e w' ⟨rfl, hb⟩
    obtain ⟨hbc, hbf⟩ := bcell hb
    have hz : w.heap.size + 1 < w'.heap.size := by have := hb.size; simp at this; omega
    go_wp2
    exact bodyPost_ret (v := .agg #[.string p, .string m, .nilIface, .slice (some ⟨B, 0, none⟩) n n]) (by simp [results, Try.results14, go_sem, hbc]) rfl ⟨rfl, by
      have h2 := (((Below.refl _ w).alloc (Nat.le_refl _) _).alloc (by simp) _).trans (hb.mono (by simp; omega))
      exact (((h2.setCell (by simp) _).setCell (by simp) _).setCell (by simp) _).setCell (by simp) _⟩
  · go_enter Try.func14, Try.ntmps14
    go_wp2_with fail
    refine (newSlice_any p m _ B n _ hn (Or.inr ⟨_, rfl⟩)).mono ?_
    rintro e w' ⟨rfl, hb⟩
    obtain ⟨hbc, hbf⟩ := bcell hb
    have hz : w.heap.size + 1 < w'.heap.size := by have := hb.size; simp at this; omega
    go_wp2
    exact bodyPost_ret (v := .agg #[.string p, .string m, .iface 29 y, .slice (some ⟨B, 0, none⟩) n n]) (by simp [results, Try.results14, go_sem, hbc]) rfl ⟨rfl, by
      have h2 := (((Below.refl _ w).alloc (Nat.le_refl _) _).alloc (by simp) _).trans (hb.mono (by simp; omega))
      exact (((h2.setCell (by simp) _).setCell (by simp) _).setCell (by simp) _).setCell (by simp) _⟩
end Go.Proofs.Qxb6615933a
