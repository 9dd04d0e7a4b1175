/-
  THE ROW OF 'FnFailuresListIsFreshEachCall' (seat b6615933a).
-/
import Derived.Test.Qxb6615933aRows
import Derived.Test.Qxb6615933aFresh
import Derived.ProofKit
import Derived.OpenShut
import Derived.ShutString
import Derived.ChangeOld
import Derived.Below
import Derived.Deep.Slices
import Derived.Lib.SmallJoins
namespace Go.Proofs.Qxb6615933a.ListIsFresh
open Go.ChangeShapes Go.WideShapes Go.ChangeAt Go.RowKit Go.Deep Go.Joins
open Go.ChangeMaps (open_string shut_string)

theorem own : ownKnob Try.prog.godebug = none := by kernel_rfl
theorem laidOut : laidOutB Try.prog = true := by kernel_rfl
theorem cells35 : Try.prog.cellsOf 35 = 5 := by kernel_rfl
theorem cells9 : Try.prog.cellsOf 9 = 1 := by kernel_rfl
theorem cells4 : Try.prog.cellsOf 4 = 1 := by kernel_rfl

/-- A FailureData that reads as data is five cells: a string, a string, a bool, a string, a string. -/
theorem five_of {H : Type} {enc : TypeId × Value → H} {W : World} {base : Nat} {spare : Nat → Bool} {held : Bool} {fuel : Nat} {cs : List Value} {x : DataW H × List MemPlace}
    (h : DataW.trod enc Try.prog W base spare held fuel 35 cs = some x) : ∃ d : FD, cs = [.string d.p, .string d.m, .bool d.h, .string d.e, .string d.g] := by
  obtain ⟨xs, n, _, _, hlen, hxl, hf⟩ := DataW.trod_struct Try.underlying35 h
  rw [cells35] at hlen
  match xs, hxl, cs, hlen with
  | [y0, y1, y2, y3, y4], _, [c0, c1, c2, c3, c4], _ =>
    have g0 := hf 0 _ rfl
    have g1 := hf 1 _ rfl
    have g2 := hf 2 _ rfl
    have g3 := hf 3 _ rfl
    have g4 := hf 4 _ rfl
    simp [cells9, cells4] at g0 g1 g2 g3 g4
    obtain ⟨s0, e0, _⟩ := DataW.trod_string Try.underlying9 g0
    obtain ⟨s1, e1, _⟩ := DataW.trod_string Try.underlying9 g1
    obtain ⟨s2, e2, _⟩ := DataW.trod_bool Try.underlying4 g2
    obtain ⟨s3, e3, _⟩ := DataW.trod_string Try.underlying9 g3
    obtain ⟨s4, e4, _⟩ := DataW.trod_string Try.underlying9 g4
    simp at e0 e1 e2 e3 e4
    exact ⟨⟨s0, s1, s2, s3, s4⟩, by rw [e0, e1, e2, e3, e4]⟩

theorem lt_of_cell {w : World} {b o : Nat} {v : Value} (h : w.cell? ⟨b, o, none⟩ = some v) : b < w.heap.size := by
  unfold World.cell? at h
  by_cases hb : b < w.heap.size
  · exact hb
  · rw [show w.heap[b]? = none from Array.getElem?_eq_none (by omega)] at h
    cases h

/-- A slice of FailureData that came in, as the walk wants it. -/
theorem open_arg {H : Type} {enc : TypeId × Value → H} {W : World} {a0 : Option Addr} {len cap : Nat} {dd : DataW H} {p : List MemPlace}
    (h : DataW.Trod enc Try.prog W 0 (fun _ => true) true 36 (.slice a0 len cap) dd p) : ∃ b off D, Arg5 W a0 b off len D := by
  obtain ⟨fuel, hf⟩ := h
  have e0 : FD := ⟨.empty, .empty, false, .empty, .empty⟩
  rcases open_slice Try.underlying36 hf with ⟨hcs, _⟩ | ⟨a, l, c, m, n, DD, Pl, hcs, _, hl, hm, hmm, hx, hcell⟩
  · simp [Value.cells] at hcs
    obtain ⟨rfl, rfl, rfl⟩ := hcs
    exact ⟨0, 0, fun _ => e0, by omega, fun h => absurd h (by omega), fun h => absurd h (by omega), fun i h => absurd h (by omega)⟩
  · simp [Value.cells] at hcs
    obtain ⟨rfl, rfl, rfl⟩ := hcs
    simp only [if_true] at hmm
    subst hmm
    have each : ∀ i, i < m → ∃ d : FD, W.cell? ((a.add (i * 5)).add 0) = some (.string d.p) ∧ W.cell? ((a.add (i * 5)).add 1) = some (.string d.m) ∧ W.cell? ((a.add (i * 5)).add 2) = some (.bool d.h) ∧
        W.cell? ((a.add (i * 5)).add 3) = some (.string d.e) ∧ W.cell? ((a.add (i * 5)).add 4) = some (.string d.g) := by
      intro i hi
      obtain ⟨cs', h1, h2⟩ := hcell i hi
      obtain ⟨d, rfl⟩ := five_of h2
      rw [cells35] at h1
      obtain ⟨_, _, hc⟩ := World.cells?_some h1
      exact ⟨d, hc 0 (by omega), hc 1 (by omega), hc 2 (by omega), hc 3 (by omega), hc 4 (by omega)⟩
    by_cases hz : len = 0
    · subst hz
      exact ⟨0, 0, fun _ => e0, by omega, fun h => absurd h (by omega), fun h => absurd h (by omega), fun i h => absurd h (by omega)⟩
    · obtain ⟨b, off, spot⟩ := a
      have hspot : spot = none := by obtain ⟨d, h0, _⟩ := each 0 (by omega); simpa [Addr.add] using World.cell?_spot h0
      subst hspot
      simp only [Go.WideShapes.add_plain] at each
      have e0' : Inhabited FD := ⟨e0⟩
      obtain ⟨Q, hQ⟩ := choose_lt (α := FD) (p := fun i d => W.cell? ⟨b, off + i * 5 + 0, none⟩ = some (.string d.p) ∧ W.cell? ⟨b, off + i * 5 + 1, none⟩ = some (.string d.m) ∧ W.cell? ⟨b, off + i * 5 + 2, none⟩ = some (.bool d.h) ∧
        W.cell? ⟨b, off + i * 5 + 3, none⟩ = some (.string d.e) ∧ W.cell? ⟨b, off + i * 5 + 4, none⟩ = some (.string d.g)) each
      refine ⟨b, off, Q, by unfold maxLen at hm; omega, fun _ => rfl, fun _ => lt_of_cell (hQ 0 (by omega)).1, fun i hi => ?_⟩
      exact hQ i (by omega)

set_option maxRecDepth 100000 in
theorem lifted (os : Os) (started : os.Started) (H : Type) (enc : TypeId × Value → H) :
    ReturnsInHanded {} Try.checked os 5 .any (Rows.fnFailuresListIsFreshEachCallSpec.pre6 enc Try.prog Try.f5 Rows.fnFailuresListIsFreshEachCallRow.domain false) (Rows.fnFailuresListIsFreshEachCallSpec.post enc Try.prog Try.f5 false true false false) := by
  refine returnsInHanded_of_change (C := Try.checked) own started (by kernel_rfl) Try.func5
    (ChangeSpec.witness6 (enc := enc) (C := Try.checked) false ⟨#[], #[.agg #[.string ByteArray.empty, .string ByteArray.empty, .bool false, .string ByteArray.empty, .string ByteArray.empty], .slice none 0 0], []⟩ 8 (by kernel_rfl) (by kernel_rfl) (by kernel_rfl) (by kernel_rfl)) ?_
  intro W base args ds gs before hval0 hW hcnd _
  have hval : ∀ (j : Nat) t v, Try.f5.params[j]? = some t → args[j]? = some v → Value.okWide Try.prog W .any base t v := hval0
  have hW' := hW
  obtain ⟨p, q, hA0, hV, rfl, hfz, hnd⟩ := hW
  have hA : DataW.TrodAll enc Try.prog W 0 (fun _ => true) true Try.f5.params.toList args.toList ds p := hA0
  rw [Try.params5] at hA hval
  obtain ⟨v0, v1, d0, d1, p0, p1, rfl, rfl, rfl, h0, h1⟩ := trodAll_two hA
  obtain ⟨rfl, rfl⟩ := trodVars_none hV
  have lt0 : ∀ x ∈ p0, x.block < W.heap.size := by obtain ⟨m, hm⟩ := h0; exact DataW.trod_lt m _ _ _ hm
  have lt1 : ∀ x ∈ p1, x.block < W.heap.size := by obtain ⟨m, hm⟩ := h1; exact DataW.trod_lt m _ _ _ hm
  obtain ⟨a0, len, cap, rfl⟩ := okWide_slice Try.underlying36 (hval 1 36 v1 rfl rfl)
  obtain ⟨b, off, D, hArg⟩ := open_arg h1
  obtain ⟨cs, rfl, _⟩ := okWide_struct Try.underlying35 (hval 0 35 v0 rfl rfl)
  obtain ⟨d, hd⟩ : ∃ d : FD, cs = #[.string d.p, .string d.m, .bool d.h, .string d.e, .string d.g] := by
    obtain ⟨fuel, hf⟩ := h0
    obtain ⟨d, e⟩ := five_of hf
    refine ⟨d, ?_⟩
    have e' : cs.toList = [.string d.p, .string d.m, .bool d.h, .string d.e, .string d.g] := by simpa [Value.cells] using e
    cases cs
    simp_all
  subst hd
  clear hA0 hval0
  refine (fresh_any a0 b off len cap D d W hArg).mono fun e W' ⟨he, bel⟩ => ?_
  subst he
  exact ⟨_, rfl, _, _, _, [], _, [], hW', trodAll_mk1 (shut_bool Try.underlying4 _), (trodAll_cons_mk (Below.trod laidOut (by kernel_rfl) (of_decide_eq_true (by kernel_rfl)) h0 bel lt0) (trodAll_cons_mk (Below.trod laidOut (by kernel_rfl) (of_decide_eq_true (by kernel_rfl)) h1 bel lt1) trodAll_mk0)), rfl, bel.frame _, fun h => by cases h⟩

theorem over : Rows.fnFailuresListIsFreshEachCallRow.holds Try.pinned (OpenSpec.ofChange Rows.fnFailuresListIsFreshEachCallSpec) :=
  OpenClaim.holds_of_wide 5 Try.f5 rfl rfl rfl rfl rfl rfl rfl ⟨rfl, rfl, rfl, rfl, rfl⟩ rfl rfl rfl rfl rfl (by kernel_rfl) Try.func5 (by kernel_rfl)
    (of_decide_eq_true (by kernel_rfl)) (by unfold Func.isWrapper; rw [if_neg (by decide +kernel)]; exact ⟨rfl, rfl⟩)
    (fun os started H enc _ => lifted os started H enc)
end Go.Proofs.Qxb6615933a.ListIsFresh

namespace Go.Proofs.Qxb6615933a
/-- THE STATEMENT. -/
theorem fnFailuresListIsFreshEachCall_proved : Rows.FnFailuresListIsFreshEachCallSaid := ListIsFresh.over
end Go.Proofs.Qxb6615933a
