/-
  THE LAW's WALK: FnFailuresListIsFreshEachCall.
-/
import Derived.Test.Qxb6615933aList
namespace Go.Proofs.Qxb6615933a
open Go.RowKit Go.Deep Go.Lib

@[go_sem] theorem run_store_errOf (P : Program) (w : World) (a : Addr) (m : Mode) (d : FD) : (store a (errOf d) m).run P w = stored P w a (errOf d) m := run_store P w a _ m (err_one (errOf_isErr d))

/-- The row l1 in the first loop: from k on the strings are as they were. -/
def Rest (w : World) (C N k : Nat) (D : Nat → FD) : Prop :=
  ∃ f, w.rowIs C 29 (N * 3) f ∧ ∀ i, k ≤ i → i < N → f (i * 3) = .string (D i).p ∧ f (i * 3 + 1) = .string (D i).m

theorem Part.rest {w : World} {C N : Nat} {D : Nat → FD} (h : Part w C N N D) : Rest w C N 0 D := by
  obtain ⟨f, hr, hf⟩ := h
  exact ⟨f, hr, fun i _ hi => ⟨(hf i hi).1, (hf i hi).2.1⟩⟩

theorem Rest.step {w : World} {C N k : Nat} {D : Nat → FD} (h : Rest w C N k D) (x y : Value) : Rest ((w.setCell ⟨C, k * 3, none⟩ x).setCell ⟨C, k * 3 + 1, none⟩ y) C N (k + 1) D := by
  obtain ⟨f, hr, hf⟩ := h
  refine ⟨_, (hr.set (k * 3) _).set (k * 3 + 1) _, fun i hk hi => ?_⟩
  obtain ⟨h0, h1⟩ := hf i (by omega) hi
  exact ⟨by rw [if_neg (by omega), if_neg (by omega)]; exact h0, by rw [if_neg (by omega), if_neg (by omega)]; exact h1⟩

theorem consD_small {d : FD} {n : Nat} {D : Nat → FD} (h : Small d n D) {k : Nat} (hk : k < n + 1) : (consD d D k).p.size ≤ 1048576 ∧ (consD d D k).m.size ≤ 1048576 := by
  cases k with
  | zero => exact ⟨h.hp, h.hm⟩
  | succ k => exact ⟨h.tp k (by omega), h.tm k (by omega)⟩

/-- What the law reads again and again, all below L: the boxed head (h), the slice tail (b, off), the slice ts (B), the Failures (F). -/
structure Env (L h b off B F n : Nat) (D : Nat → FD) (d : FD) (y : World) : Prop where
  hl : h < L
  Bl : B < L
  Fl : F < L
  bl : 0 < n → b < L
  h0 : y.cell? ⟨h, 0, none⟩ = some (.string d.p)
  h1 : y.cell? ⟨h, 1, none⟩ = some (.string d.m)
  h2 : y.cell? ⟨h, 2, none⟩ = some (.bool d.h)
  h3 : y.cell? ⟨h, 3, none⟩ = some (.string d.e)
  h4 : y.cell? ⟨h, 4, none⟩ = some (.string d.g)
  f0 : y.cell? ⟨F, 0, none⟩ = some (.string d.p)
  f1 : y.cell? ⟨F, 1, none⟩ = some (.string d.m)
  f2 : y.cell? ⟨F, 2, none⟩ = some (errOf d)
  f3 : y.cell? ⟨F, 3, none⟩ = some (.slice (some ⟨B, 0, none⟩) n n)
  ts : Part y B n n D
  tail : 0 < n → Fives y b off n D

theorem Env.later {L h b off B F n : Nat} {D : Nat → FD} {d : FD} {y z : World} (e : Env L h b off B F n D d y) (hb : Below L y z) : Env L h b off B F n D d z := by
  have k := (bcell hb).1
  exact ⟨e.hl, e.Bl, e.Fl, e.bl, (k _ _ e.hl).trans e.h0, (k _ _ e.hl).trans e.h1, (k _ _ e.hl).trans e.h2, (k _ _ e.hl).trans e.h3, (k _ _ e.hl).trans e.h4,
    (k _ _ e.Fl).trans e.f0, (k _ _ e.Fl).trans e.f1, (k _ _ e.Fl).trans e.f2, (k _ _ e.Fl).trans e.f3, e.ts.later e.Bl hb, fun hn => (e.tail hn).later (e.bl hn) hb⟩

set_option maxRecDepth 100000 in
set_option maxHeartbeats 2000000 in
theorem fresh_any (a0 : Option Addr) (b off n cap : Nat) (D : Nat → FD) (d : FD) (w : World) (hA : Hid (Arg5 w a0 b off n D)) :
    Calls Try.prog 5 #[.agg #[.string d.p, .string d.m, .bool d.h, .string d.e, .string d.g], .slice a0 n cap] w fun e w' => e = .returned (.bool true) ∧ Below w.heap.size w w' := by
  have b0 : Hid (∀ O : Obj, Below w.heap.size w (w.alloc O)) := fun O => (Below.refl _ w).alloc (Nat.le_refl _) O
  go_enter Try.func5, Try.ntmps5
  go_wp2_with fail
  refine (zzFresh_any d _ cap (hA.out.later (Nat.le_refl _) (b0.out _))).mono ?_
  rintro e w1 ⟨hg, hb1⟩
  have hb01 : Hid (Below w.heap.size w w1) := (b0.out _).trans (hb1.mono (by simp))
  rcases hg with rfl | ⟨rfl, hS⟩
  · go_wp2
    go_ret
    exact ⟨rfl, hb01.out⟩
  have HS : Hid (Small d n D) := hS
  have hn : n ≤ 1048576 := hS.hn
  have t0 : w1.cell? ⟨w.heap.size, 0, none⟩ = some (.string d.p) := ((bcell hb1).1 _ _ (by simp)).trans (by simp)
  have t1 : w1.cell? ⟨w.heap.size, 1, none⟩ = some (.string d.m) := ((bcell hb1).1 _ _ (by simp)).trans (by simp)
  have t2 : w1.cell? ⟨w.heap.size, 2, none⟩ = some (.bool d.h) := ((bcell hb1).1 _ _ (by simp)).trans (by simp)
  have t3 : w1.cell? ⟨w.heap.size, 3, none⟩ = some (.string d.e) := ((bcell hb1).1 _ _ (by simp)).trans (by simp)
  have t4 : w1.cell? ⟨w.heap.size, 4, none⟩ = some (.string d.g) := ((bcell hb1).1 _ _ (by simp)).trans (by simp)
  have z1 : w.heap.size < w1.heap.size := by have := hb1.size; simp at this; omega
  clear hb1 hS b0
  go_wp2_with fail
  refine (dataFits_any d _ cap (hA.out.later (Nat.le_refl _) hb01.out)).mono ?_
  rintro e w2 ⟨⟨ok, rfl⟩, hb2⟩
  have hb02 : Hid (Below w.heap.size w w2) := hb01.out.trans (hb2.mono (by omega))
  cases ok
  · go_wp2
    go_ret
    exact ⟨rfl, hb02.out⟩
  have HB : Hid (Below w1.heap.size w1 w2) := hb2
  have z2 : w.heap.size < w2.heap.size := by have := hb2.size; omega
  clear hb2 hb01
  go_wp2_with fail
  refine (buildTail_any _ cap hn (hA.out.later (Nat.le_refl _) hb02.out)).mono ?_
  rintro e w3 ⟨rfl, hp3, z3, hb3⟩
  have hb13 : Hid (Below w1.heap.size w1 w3) := HB.out.trans (hb3.mono HB.out.size)
  have hb03 : Hid (Below w.heap.size w w3) := hb02.out.trans (hb3.mono (by omega))
  have HP3 : Hid (Part w3 w2.heap.size n n D) := hp3
  obtain ⟨k3, _⟩ := bcell hb13.out
  clear hb3 hp3 HB hb02
  go_wp2_with fail
  refine (mkFailure_any d _).mono ?_
  rintro e w4 ⟨rfl, hb4⟩
  have HB4 : Hid (Below w3.heap.size w3 w4) := hb4
  clear hb4
  go_wp2_with fail
  refine (newFailures_any d.p d.m (errOf d) w2.heap.size n _ hn (errOf_isErr d)).mono ?_
  rintro e w5 ⟨rfl, hb5⟩
  have hb35 : Hid (Below w3.heap.size w3 w5) := HB4.out.trans (hb5.mono HB4.out.size)
  have z35 : w3.heap.size ≤ w5.heap.size := hb35.out.size
  have hbO : Hid (∀ O : Obj, Below w3.heap.size w3 (w5.alloc O)) := fun O => hb35.out.alloc z35 O
  have hE : Hid (Env (w5.heap.size + 1) w.heap.size b off w2.heap.size w5.heap.size n D d (w5.alloc (.cells #[.string d.p, .string d.m, errOf d, .slice (some ⟨w2.heap.size, 0, none⟩) n n] 40))) := by
    have hbx := hbO.out (.cells #[.string d.p, .string d.m, errOf d, .slice (some ⟨w2.heap.size, 0, none⟩) n n] 40)
    have kx := (bcell (hb13.out.trans (hbx.mono hb13.out.size))).1
    exact ⟨by omega, by omega, by omega, fun hp => by have := hA.out.low hp; omega, (kx _ _ z1).trans t0, (kx _ _ z1).trans t1, (kx _ _ z1).trans t2, (kx _ _ z1).trans t3, (kx _ _ z1).trans t4,
      by simp, by simp, by simp, by simp, HP3.out.later z3 hbx, fun hp => hA.out.cells.later (hA.out.low hp) (hb03.out.trans (hbx.mono (by omega)))⟩
  have hb0O : Hid (∀ O : Obj, Below w.heap.size w (w5.alloc O)) := fun O => hb03.out.trans ((hbO.out O).mono (by omega))
  have e1 : (1 : Int) + (n : Int) = (n : Int) + 1 := by omega
  have ha : Hid (0 < n → a0 = some ⟨b, off, none⟩) := hA.out.addr
  clear hb5 HB4 t0 t1 t2 t3 t4 k3
  go_wp2_with fail
  refine (zzlist_any d w2.heap.size n D _ hn hE.out.ts (by simp; omega)).mono ?_
  rintro e w7 ⟨C1, rfl, hC1, hp7, hb7⟩
  simp only [World.size_alloc] at hC1 hb7
  have HP7 : Hid (Part w7 C1 (n + 1) (n + 1) (consD d D)) := hp7
  have HB7 : Hid (Below w.heap.size w w7) := (hb0O.out _).trans (hb7.mono (by omega))
  have hE7 : Hid (Env (w5.heap.size + 1) w.heap.size b off w2.heap.size w5.heap.size n D d w7) := hE.out.later hb7
  have z7 : w5.heap.size + 1 ≤ w7.heap.size := by have := hb7.size; simp at this; omega
  clear hp7 hb7 hE hb0O hbO hb35 HP3 hb03 hb13 hA
  go_wp2_with fail
  go_loopw [9] (fun i wr => ∃ k : Nat, k ≤ n + 1 ∧ i = .int .i64 k ∧ Hid (Rest wr C1 (n + 1) k (consD d D)) ∧ Hid (Below (w5.heap.size + 1) w7 wr)) (fun i _ => n + 1 - (intOf i).toNat)
  case atStart => exact ⟨0, by omega, rfl, HP7.out.rest, Below.refl _ _⟩
  case round =>
    obtain ⟨k, hk, rfl, hR, hbw⟩ := hrel
    by_cases hlt : k < n + 1
    · obtain ⟨f, hr, hf⟩ := hR.out
      obtain ⟨v0, v1⟩ := hf k (by omega) hlt
      have q0 : wr.cell? ⟨C1, k * 3, none⟩ = some (.string (consD d D k).p) := by rw [← v0]; exact hr.cell (by omega)
      have q1 : wr.cell? ⟨C1, k * 3 + 1, none⟩ = some (.string (consD d D k).m) := by rw [← v1]; exact hr.cell (by omega)
      have g0 := hr.frozen (k * 3)
      have g1 := hr.frozen (k * 3 + 1)
      obtain ⟨s0, s1⟩ := consD_small HS.out hlt
      clear hr hf v0 v1
      go_wp2
      go_roundw
      case rel => exact ⟨k + 1, by omega, by go_num, hR.out.step _ _, (hbw.out.setCell (by simpa using hC1) _).setCell (by simpa using hC1) _⟩
      case measure => simp [intOf]; omega
    · obtain rfl : k = n + 1 := by omega
      have hEr : Hid (Env (w5.heap.size + 1) w.heap.size b off w2.heap.size w5.heap.size n D d wr) := hE7.out.later hbw.out
      have HBr : Hid (Below w.heap.size w wr) := HB7.out.trans (hbw.out.mono (by omega))
      have zr : w5.heap.size + 1 ≤ wr.heap.size := by have := hbw.out.size; omega
      have f0 := hEr.out.f0
      have f1 := hEr.out.f1
      have f2 := hEr.out.f2
      have f3 := hEr.out.f3
      clear hbw hR hE7 HB7 HP7 hk hlt
      go_wp2_with fail
      refine (zzlist_any d w2.heap.size n D _ hn hEr.out.ts (by omega)).mono ?_
      rintro e w8 ⟨C2, rfl, hC2, hp8, hb8⟩
      have HP8 : Hid (Part w8 C2 (n + 1) (n + 1) (consD d D)) := hp8
      have HB8 : Hid (Below w.heap.size w w8) := HBr.out.trans (hb8.mono (by have := HBr.out.size; omega))
      have hE8 : Hid (Env (w5.heap.size + 1) w.heap.size b off w2.heap.size w5.heap.size n D d w8) := hEr.out.later (hb8.mono zr)
      have zC : C2 < w8.heap.size := by obtain ⟨f, hr, _⟩ := hp8; exact hr.lt
      have z8 : w5.heap.size + 1 ≤ w8.heap.size := by have := hb8.size; omega
      clear hp8 hb8 hEr HBr f0 f1 f2 f3
      go_wp2_with fail
      go_loopw [11] (fun i wr => ∃ k : Nat, k ≤ n + 1 ∧ i = .int .i64 k ∧ Hid (Below w8.heap.size w8 wr)) (fun i _ => n + 1 - (intOf i).toNat)
      case atStart => exact ⟨0, by omega, rfl, Below.refl _ _⟩
      case round =>
        obtain ⟨k, hk, rfl, hbw⟩ := hrel
        by_cases hlt : k < n + 1
        · have hE9 := hE8.out.later (hbw.out.mono z8)
          obtain ⟨q0, q1, q2⟩ := (HP8.out.later zC hbw.out).cells hlt (Nat.le_refl _)
          have r0 := hE9.h0
          have r1 := hE9.h1
          have r2 := hE9.h2
          have r3 := hE9.h3
          have r4 := hE9.h4
          have zw := hbw.out.size
          have y0 : w.heap.size < wr.heap.size := by have := hE9.hl; omega
          have y1 : C2 < wr.heap.size := by omega
          cases k with
          | zero =>
            have q0' : wr.cell? ⟨C2, 0, none⟩ = some (.string d.p) := by simpa [consD] using q0
            have q1' : wr.cell? ⟨C2, 1, none⟩ = some (.string d.m) := by simpa [consD] using q1
            have q2' : wr.cell? ⟨C2, 2, none⟩ = some (errOf d) := by simpa [consD] using q2
            clear q0 q1 q2 hE9
            go_wp2_with fail
            go_region_with (first
              | (go_at_call 19; refine (dataAt_zero d _ _ _ _).mono ?_; rintro e w' ⟨rfl, hb'⟩; have u0 : w'.cell? ⟨C2, 0, none⟩ = some (.string d.p) := ((bcell hb').1 _ _ (by exact y1)).trans q0'; have u1 : w'.cell? ⟨C2, 1, none⟩ = some (.string d.m) := ((bcell hb').1 _ _ (by exact y1)).trans q1'; have u2 : w'.cell? ⟨C2, 2, none⟩ = some (errOf d) := ((bcell hb').1 _ _ (by exact y1)).trans q2')
              | (go_at_call 20; refine (matches_any d _).mono ?_; rintro e w'' ⟨rfl, hb''⟩))
            all_goals
              go_wp2
              go_roundw
              case rel => first | exact ⟨1, by omega, by go_num, (hbw.out.drew.trans (hb'.mono (by exact zw))).trans (hb''.mono (Nat.le_trans zw hb'.size))⟩ | ((repeat apply Exists.intro); exact ⟨⟨1, by omega, by go_num, (hbw.out.drew.trans (hb'.mono (by exact zw))).trans (hb''.mono (Nat.le_trans zw hb'.size))⟩, rfl⟩)
              case measure => simp [intOf]
          | succ k =>
            have q0' : wr.cell? ⟨C2, (k + 1) * 3, none⟩ = some (.string (D k).p) := q0
            have q1' : wr.cell? ⟨C2, (k + 1) * 3 + 1, none⟩ = some (.string (D k).m) := q1
            have q2' : wr.cell? ⟨C2, (k + 1) * 3 + 2, none⟩ = some (errOf (D k)) := q2
            obtain rfl := ha.out (by omega)
            have hF : Hid (Fives wr b off n D) := hE9.tail (by omega)
            have hbl : b < wr.heap.size := by have := hE9.bl (by omega); omega
            have hkn : k < n := by omega
            clear q0 q1 q2 hE9
            go_wp2_with fail
            go_region_with (first
              | (go_at_call 19; refine (dataAt_succ d b off n cap D k _ (by omega) (by exact hbl) (by exact hF) hkn).mono ?_; rintro e w' ⟨rfl, hb'⟩; have u0 : w'.cell? ⟨C2, (k + 1) * 3, none⟩ = some (.string (D k).p) := ((bcell hb').1 _ _ (by exact y1)).trans q0'; have u1 : w'.cell? ⟨C2, (k + 1) * 3 + 1, none⟩ = some (.string (D k).m) := ((bcell hb').1 _ _ (by exact y1)).trans q1'; have u2 : w'.cell? ⟨C2, (k + 1) * 3 + 2, none⟩ = some (errOf (D k)) := ((bcell hb').1 _ _ (by exact y1)).trans q2')
              | (go_at_call 20; refine (matches_any (D k) _).mono ?_; rintro e w'' ⟨rfl, hb''⟩))
            all_goals
              go_wp2
              go_roundw
              case rel => first | exact ⟨k + 1 + 1, by omega, by go_num, (hbw.out.drew.trans (hb'.mono (by exact zw))).trans (hb''.mono (Nat.le_trans zw hb'.size))⟩ | ((repeat apply Exists.intro); exact ⟨⟨k + 1 + 1, by omega, by go_num, (hbw.out.drew.trans (hb'.mono (by exact zw))).trans (hb''.mono (Nat.le_trans zw hb'.size))⟩, rfl⟩)
              case measure => simp [intOf]; omega
        · obtain rfl : k = n + 1 := by omega
          have hbx : Hid (Below w8.heap.size w8 wr) := hbw.out
          clear hbw hk hlt
          go_wp2_with fail
          go_loopw [12] (fun i wr => ∃ k : Nat, k ≤ n ∧ i = .int .i64 k ∧ Hid (Below w8.heap.size w8 wr)) (fun i _ => n - (intOf i).toNat)
          case atStart => exact ⟨0, by omega, rfl, hbx.out⟩
          case round =>
            obtain ⟨k, hk, rfl, hbw⟩ := hrel
            clear hbx
            by_cases hlt : k < n
            · have hE9 := hE8.out.later (hbw.out.mono z8)
              obtain rfl := ha.out (by omega)
              obtain ⟨q0, q1, q2⟩ := hE9.ts.cells hlt (Nat.le_refl _)
              obtain ⟨c0, c1, c2, c3, c4⟩ := hE9.tail (by omega) k hlt
              have zw := hbw.out.size
              have ki : (k : Int) < (n : Int) := by omega
              clear hE9
              go_wp2_with fail
              go_region_with (go_at_call 20; refine (matches_any (D k) _).mono ?_; rintro e w' ⟨rfl, hb'⟩)
              all_goals
                go_wp2
                go_roundw
                case rel => first | exact ⟨k + 1, by omega, by go_num, hbw.out.drew.trans (hb'.mono (by exact zw))⟩ | ((repeat apply Exists.intro); exact ⟨⟨k + 1, by omega, by go_num, hbw.out.drew.trans (hb'.mono (by exact zw))⟩, rfl⟩)
                case measure => simp [intOf]; omega
            · obtain rfl : k = n := by omega
              have HBf : Hid (Below w.heap.size w wr) := HB8.out.trans (hbw.out.mono (by have := HB8.out.size; omega))
              go_wp2
              go_ret
              exact ⟨rfl, HBf.out⟩
end Go.Proofs.Qxb6615933a
