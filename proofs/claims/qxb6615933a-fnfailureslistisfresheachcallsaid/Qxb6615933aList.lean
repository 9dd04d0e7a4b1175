/-
  THE WALKS OF Size, appendTo, ToSlice, list AND ZZlist.
-/
import Derived.Test.Qxb6615933aMake
import Derived.Deep.RegionLaw
import Derived.Lib.LazyBuf
import Derived.WalkSmall
namespace Go.Proofs.Qxb6615933a
open Go.RowKit Go.Deep Go.Lib

set_option maxHeartbeats 1000000 in
theorem size_any (p m : ByteArray) (x : Value) (B n : Nat) (w : World) (hn : n ≤ 1048576) :
    Calls Try.prog 30 #[.agg #[.string p, .string m, x, .slice (some ⟨B, 0, none⟩) n n]] w fun e w' => e = .returned (.int .i64 ((n : Int) + 1)) ∧ w' = w.alloc (.cells #[.string p, .string m, x, .slice (some ⟨B, 0, none⟩) n n] 53) := by
  have e1 : (1 : Int) + (n : Int) = (n : Int) + 1 := by omega
  go_enter Try.func30, Try.ntmps30
  go_wp2
  go_ret
  exact ⟨rfl, rfl⟩

theorem spare_of {W : World} {C N : Nat} {f : Nat → Value} (h : W.rowIs C 29 N f) (o len : Nat) (hl : o + len ≤ N) : ∀ j, j < len → (W.cell? ⟨C, o + j, none⟩).isSome = true ∧ W.frozen? ⟨C, o + j, none⟩ = false := by
  intro j hj
  exact ⟨by rw [h.cell (by omega)]; rfl, h.frozen _⟩

theorem news_of {W : World} {B N : Nat} {f : Nat → Value} (h : W.rowIs B 29 N f) : ∀ j u, ((List.range N).map f)[j]? = some u → W.cell? (Addr.add ⟨B, 0, none⟩ j) = some u := by
  intro j u hj
  by_cases hlt : j < N
  · rw [Go.WideShapes.add_plain, Nat.zero_add, h.cell hlt]
    simpa [hlt] using hj
  · rw [List.getElem?_eq_none (by simp; omega)] at hj
    cases hj

theorem one_of {N : Nat} {f : Nat → Value} (h : ∀ j, j < N → (f j).oneCell' = true) : ∀ u ∈ (List.range N).map f, u.oneCell' = true := by
  intro u hu
  simp only [List.mem_map, List.mem_range] at hu
  obtain ⟨j, hj, rfl⟩ := hu
  exact h j hj

theorem news3 (w : World) (O : Obj) (a b c : Value) : ∀ j u, [a, b, c][j]? = some u → (((w.alloc O).alloc (.cells #[a, b, c] 29)).drew).cell? (Addr.add ⟨w.heap.size + 1, 0, none⟩ j) = some u := by
  intro j u hj
  rw [Go.WideShapes.add_plain, Nat.zero_add]
  match j, hj with
  | 0, hj => simp at hj; subst hj; simp
  | 1, hj => simp at hj; subst hj; simp
  | 2, hj => simp at hj; subst hj; simp
  | j + 3, hj => simp at hj

/-- d, then the others. -/
def consD (d : FD) (D : Nat → FD) : Nat → FD
  | 0 => d
  | i + 1 => D i

theorem appended {w : World} {C n : Nat} {f0 f : Nat → Value} {d : FD} {D : Nat → FD} (hC : w.rowIs C 29 ((n + 1) * 3) f0)
    (hf : ∀ i, i < n → f (i * 3) = .string (D i).p ∧ f (i * 3 + 1) = .string (D i).m ∧ f (i * 3 + 2) = errOf (D i)) :
    Part ((w.setCells C 0 [.string d.p, .string d.m, errOf d]).setCells C 3 ((List.range (n * 3)).map f)) C (n + 1) (n + 1) (consD d D) := by
  refine ⟨_, rowIs_setCells _ _ _ _ (rowIs_setCells _ _ _ _ hC), ?_⟩
  intro i hi
  cases i with
  | zero =>
    refine ⟨?_, ?_, ?_⟩
    · rw [if_neg (by omega), if_pos (by simp)]; rfl
    · rw [if_neg (by omega), if_pos (by simp)]; rfl
    · rw [if_neg (by omega), if_pos (by simp)]; rfl
  | succ i =>
    obtain ⟨h0, h1, h2⟩ := hf i (by omega)
    refine ⟨?_, ?_, ?_⟩
    · rw [if_pos (by simp; omega), show (i + 1) * 3 - 3 = i * 3 by omega, List.getElem?_map, List.getElem?_range (by omega)]; exact h0
    · rw [if_pos (by simp; omega), show (i + 1) * 3 + 1 - 3 = i * 3 + 1 by omega, List.getElem?_map, List.getElem?_range (by omega)]; exact h1
    · rw [if_pos (by simp; omega), show (i + 1) * 3 + 2 - 3 = i * 3 + 2 by omega, List.getElem?_map, List.getElem?_range (by omega)]; exact h2

theorem err_one {x : Value} (hx : IsErr x) : x.oneCell' = true := by
  rcases hx with rfl | ⟨y, rfl⟩ <;> rfl

theorem part_one {n : Nat} {f : Nat → Value} {D : Nat → FD} (hf : ∀ i, i < n → f (i * 3) = .string (D i).p ∧ f (i * 3 + 1) = .string (D i).m ∧ f (i * 3 + 2) = errOf (D i)) :
    ∀ u ∈ (List.range (n * 3)).map f, u.oneCell' = true := by
  refine one_of fun j hj => ?_
  obtain ⟨h0, h1, h2⟩ := hf (j / 3) (by omega)
  rcases (by omega : j = j / 3 * 3 ∨ j = j / 3 * 3 + 1 ∨ j = j / 3 * 3 + 2) with e | e | e
  · rw [e, h0]; rfl
  · rw [e, h1]; rfl
  · rw [e, h2]; exact err_one (errOf_isErr _)

set_option maxRecDepth 100000 in
set_option maxHeartbeats 1000000 in
theorem appendTo_any (d : FD) (B C n : Nat) (f0 : Nat → Value) (D : Nat → FD) (w : World) (hn : n ≤ 1048576) (hC : Hid (w.rowIs C 29 ((n + 1) * 3) f0)) (hp : Hid (Part w B n n D)) (hBC : B < C) :
    Calls Try.prog 29 #[.slice (some ⟨C, 0, none⟩) 0 (n + 1), .agg #[.string d.p, .string d.m, errOf d, .slice (some ⟨B, 0, none⟩) n n]] w fun e w' => e = .returned (.slice (some ⟨C, 0, none⟩) (n + 1) (n + 1)) ∧ Part w' C (n + 1) (n + 1) (consD d D) ∧ Below C w w' := by
  obtain ⟨i0, hi, hzz⟩ := Option.map_eq_some_iff.1 info29
  simp only [Prod.mk.injEq] at hzz
  obtain ⟨hz, hs, hb⟩ := hzz
  have HI : Hid (Try.prog.info? 29 = some i0 ∧ i0.size = 3) := ⟨hi, hs⟩
  clear hi hz hs hb
  obtain ⟨f, hr, hf⟩ := hp.out
  have hB : Hid (w.rowIs B 29 (n * 3) f) := hr
  have hF : Hid (∀ i, i < n → f (i * 3) = .string (D i).p ∧ f (i * 3 + 1) = .string (D i).m ∧ f (i * 3 + 2) = errOf (D i)) := hf
  have hfone : Hid (∀ u ∈ (List.range (n * 3)).map f, u.oneCell' = true) := part_one hf
  have hlt := hC.out.lt
  clear hr hf hp
  have hone : Hid (∀ u ∈ [Value.string d.p, .string d.m, errOf d], u.oneCell' = true) := by intro u hu; simp at hu; rcases hu with rfl | rfl | rfl <;> first | rfl | exact err_one (errOf_isErr _)
  have hset : ∀ (W : World) (o : Nat) (vs : List Value), (W.setCells C o vs).cell? ⟨w.heap.size, 3, none⟩ = W.cell? ⟨w.heap.size, 3, none⟩ := fun W o vs => World.cell?_setCells_out C vs o W _ (fun h => absurd h (by simp; omega))
  go_enter Try.func29, Try.ntmps29
  go_wp2
  go_region_law (first
    | refine step_append_room (by with_reducible rfl) (.tmp 5) (.tmp 8) 38 (by with_reducible rfl) 29 i0 3 Try.underlying38 HI.out.1 HI.out.2 C 0 0 (n + 1) (by simp [Act.eval]) ⟨w.heap.size + 1, 0, none⟩ 1 1 [.string d.p, .string d.m, errOf d] (by simp [Act.eval]) rfl (by exact news3 w _ _ _ _) hone.out (by omega) (by exact spare_of (((hC.out.alloc _).alloc _).drew) _ _ (by simp; omega)) ?_
    | refine step_append_room (by with_reducible rfl) (.tmp 9) (.tmp 11) 38 (by with_reducible rfl) 29 i0 3 Try.underlying38 HI.out.1 HI.out.2 C 0 1 (n + 1) (by simp [Act.eval]) ⟨B, 0, none⟩ n n ((List.range (n * 3)).map f) (by simp [Act.eval]) (by simp) (by exact news_of (rowIs_setCells_other (by omega) _ _ _ (((hB.out.alloc _).alloc _).drew))) hfone.out (by omega) (by exact spare_of (rowIs_setCells _ _ _ _ (((hC.out.alloc _).alloc _).drew)) _ _ (by simp; omega)) ?_)
  all_goals go_wp2
  all_goals go_ret
  all_goals exact ⟨congrArg (fun k => Ending.returned (Value.slice (some ⟨C, 0, none⟩) k (n + 1))) (Nat.add_comm 1 n), appended (((hC.out.alloc _).alloc _).drew) hF.out, below_setCells (Nat.le_refl _) _ _ _ (below_setCells (Nat.le_refl _) _ _ _ ((((Below.refl _ w).alloc (by omega) _).alloc (by simp; omega) _).drew))⟩

theorem make29_room (n : Nat) (hn : n ≤ 1048576) (w : World) : (Instr.makeSlice 38 (.int .i64 0) (.int .i64 ((n : Int) + 1))).run Try.prog w = .ok (.slice (some ⟨w.heap.size, 0, none⟩) 0 (n + 1)) (w.alloc (row29 (n + 1))) :=
  make29 0 (n + 1) (by omega) (by omega) w

theorem appendTo_some (d : FD) (B C n : Nat) (D : Nat → FD) (w : World) (hn : n ≤ 1048576) (hC : ∃ f0, w.rowIs C 29 ((n + 1) * 3) f0) (hp : Part w B n n D) (hBC : B < C) :
    Calls Try.prog 29 #[.slice (some ⟨C, 0, none⟩) 0 (n + 1), .agg #[.string d.p, .string d.m, errOf d, .slice (some ⟨B, 0, none⟩) n n]] w fun e w' => e = .returned (.slice (some ⟨C, 0, none⟩) (n + 1) (n + 1)) ∧ Part w' C (n + 1) (n + 1) (consD d D) ∧ Below C w w' := by
  obtain ⟨f0, h⟩ := hC
  exact appendTo_any d B C n f0 D w hn h hp hBC

/-- What ToSlice, list and ZZlist give: a slice of new memory. -/
def ListPost (w : World) (d : FD) (n : Nat) (D : Nat → FD) (e : Ending) (w' : World) : Prop :=
  ∃ C, e = .returned (.slice (some ⟨C, 0, none⟩) (n + 1) (n + 1)) ∧ w.heap.size ≤ C ∧ Part w' C (n + 1) (n + 1) (consD d D) ∧ Below w.heap.size w w'

set_option maxRecDepth 100000 in
set_option maxHeartbeats 1000000 in
theorem toSlice_any (d : FD) (B n : Nat) (D : Nat → FD) (w : World) (hn : n ≤ 1048576) (hp : Hid (Part w B n n D)) (hB : B < w.heap.size) :
    Calls Try.prog 28 #[.agg #[.string d.p, .string d.m, errOf d, .slice (some ⟨B, 0, none⟩) n n]] w fun e w' => ListPost w d n D e w' := by
  have hmk := make29_room n hn
  have hrow : Hid (∀ O1 O2 : Obj, ∃ f, ((((w.alloc O1).alloc O2).alloc (row29 (n + 1))).drew).rowIs (w.heap.size + 1 + 1) 29 ((n + 1) * 3) f) := by
    intro O1 O2
    obtain ⟨f, hf⟩ := row29_is (n + 1) ((w.alloc O1).alloc O2)
    exact ⟨f, by simpa using hf.drew⟩
  have hpart : Hid (∀ O1 O2 O3 : Obj, Part ((((w.alloc O1).alloc O2).alloc O3).drew) B n n D) := fun O1 O2 O3 =>
    hp.out.later hB (((((Below.refl _ w).alloc (Nat.le_refl _) O1).alloc (by simp) O2).alloc (by simp; omega) O3).drew)
  go_enter Try.func28, Try.ntmps28
  go_wp2
  go_region_with (first
    | (go_at_call 30; refine (size_any _ _ _ _ _ _ hn).mono ?_; rintro e w' ⟨rfl, rfl⟩)
    | (go_at_call 29; refine (appendTo_some d B _ n D _ hn (by exact hrow.out _ _) (by exact hpart.out _ _ _) (by omega)).mono ?_; rintro e w' ⟨rfl, hp', hb'⟩))
  all_goals go_wp2
  all_goals go_ret
  all_goals exact ⟨_, rfl, by omega, hp', ((((Below.refl _ w).alloc (Nat.le_refl _) _).alloc (by simp) _).alloc (by simp; omega) _).drew.trans (hb'.mono (by omega))⟩

set_option maxHeartbeats 1000000 in
theorem list_any (d : FD) (B n : Nat) (D : Nat → FD) (w : World) (hn : n ≤ 1048576) (hp : Hid (Part w B n n D)) (hB : B < w.heap.size) :
    Calls Try.prog 27 #[.agg #[.string d.p, .string d.m, errOf d, .slice (some ⟨B, 0, none⟩) n n]] w fun e w' => ListPost w d n D e w' := by
  have hpart : Hid (∀ O1 : Obj, Part (w.alloc O1) B n n D) := fun O1 => hp.out.later hB ((Below.refl _ w).alloc (Nat.le_refl _) O1)
  go_enter Try.func27, Try.ntmps27
  go_wp2_with (go_at_call 28; refine (toSlice_any d B n D _ hn (by exact hpart.out _) (by simp; omega)).mono ?_; rintro e w' ⟨C, rfl, hC, hp', hb'⟩)
  go_ret
  exact ⟨_, rfl, by simp at hC; omega, hp', ((Below.refl _ w).alloc (Nat.le_refl _) _).trans (hb'.mono (by simp))⟩

set_option maxHeartbeats 1000000 in
theorem zzlist_any (d : FD) (B n : Nat) (D : Nat → FD) (w : World) (hn : n ≤ 1048576) (hp : Hid (Part w B n n D)) (hB : B < w.heap.size) :
    Calls Try.prog 18 #[.agg #[.string d.p, .string d.m, errOf d, .slice (some ⟨B, 0, none⟩) n n]] w fun e w' => ListPost w d n D e w' := by
  have hpart : Hid (∀ O1 : Obj, Part (w.alloc O1) B n n D) := fun O1 => hp.out.later hB ((Below.refl _ w).alloc (Nat.le_refl _) O1)
  go_enter Try.func18, Try.ntmps18
  go_wp2_with (go_at_call 27; refine (list_any d B n D _ hn (by exact hpart.out _) (by simp; omega)).mono ?_; rintro e w' ⟨C, rfl, hC, hp', hb'⟩)
  go_ret
  exact ⟨_, rfl, by simp at hC; omega, hp', ((Below.refl _ w).alloc (Nat.le_refl _) _).trans (hb'.mono (by simp))⟩
end Go.Proofs.Qxb6615933a
