/-
  THE ROW OF 'FnFailureUnwrapWalksChain' (seat b6615933a).
-/
import Derived.Test.Qxb6615933aRows
import Derived.Test.Qxb6615933aChain
import Derived.ProofKit
import Derived.OpenShut
import Derived.ShutString
import Derived.ChangeOld
import Derived.Below
import Derived.Deep.SlicePairs
import Derived.Lib.SmallJoins
namespace Go.Proofs.Qxb6615933a.UnwrapWalksChain
open Go.ChangeShapes Go.WideShapes Go.ChangeAt Go.RowKit Go.Deep Go.Joins
open Go.ChangeMaps (open_string shut_string)

theorem own : ownKnob Try.prog.godebug = none := by kernel_rfl
theorem laidOut : laidOutB Try.prog = true := by kernel_rfl
theorem cells23 : Try.prog.cellsOf 23 = 2 := by kernel_rfl
theorem cells9 : Try.prog.cellsOf 9 = 1 := by kernel_rfl

theorem lt_of_cell {w : World} {b o : Nat} {v : Value} (h : w.cell? ⟨b, o, none⟩ = some v) : b < w.heap.size := by
  unfold World.cell? at h
  by_cases hb : b < w.heap.size
  · exact hb
  · rw [show w.heap[b]? = none from Array.getElem?_eq_none (by omega)] at h
    cases h

/-- A slice of PathMsg that came in, as the walk wants it. -/
theorem open_arg {H : Type} {enc : TypeId × Value → H} {W : World} {a0 : Option Addr} {len cap : Nat} {d : DataW H} {p : List MemPlace}
    (h : DataW.Trod enc Try.prog W 0 (fun _ => true) true 24 (.slice a0 len cap) d p) : ∃ b off P M, Arg W a0 b off len P M := by
  have hlt : ∀ x ∈ p, x.block < W.heap.size := by obtain ⟨m, hm⟩ := h; exact DataW.trod_lt m _ _ _ hm
  obtain ⟨fuel, hf⟩ := h
  rcases open_slice_pairs Try.underlying24 Try.underlying23 cells23 rfl rfl cells9 cells9 hf with ⟨hcs, _⟩ | ⟨a, l, c, m, n, V0, V1, D0, D1, P0, P1, hcs, _, hl, hm, hmm, hx, hcell⟩
  · simp [Value.cells] at hcs
    obtain ⟨rfl, rfl, rfl⟩ := hcs
    exact ⟨0, 0, fun _ => .empty, fun _ => .empty, by omega, fun h => absurd h (by omega), fun h => absurd h (by omega), fun i h => absurd h (by omega)⟩
  · simp [Value.cells] at hcs
    obtain ⟨rfl, rfl, rfl⟩ := hcs
    simp only [if_true] at hmm
    subst hmm
    have each : ∀ i, i < m → ∃ q : ByteArray × ByteArray, W.cell? (a.add (i * 2)) = some (.string q.1) ∧ W.cell? (a.add (i * 2 + 1)) = some (.string q.2) := by
      intro i hi
      obtain ⟨h1, h2, h3, h4⟩ := hcell i hi
      obtain ⟨s0, e0, _⟩ := DataW.trod_string Try.underlying9 h3
      obtain ⟨s1, e1, _⟩ := DataW.trod_string Try.underlying9 h4
      simp at e0 e1
      exact ⟨(s0, s1), by rw [h1, e0], by rw [h2, e1]⟩
    obtain ⟨Q, hQ⟩ := choose_lt (α := ByteArray × ByteArray) (p := fun i q => W.cell? (a.add (i * 2)) = some (.string q.1) ∧ W.cell? (a.add (i * 2 + 1)) = some (.string q.2)) each
    by_cases hz : len = 0
    · subst hz
      exact ⟨0, 0, fun _ => .empty, fun _ => .empty, by omega, fun h => absurd h (by omega), fun h => absurd h (by omega), fun i h => absurd h (by omega)⟩
    · obtain ⟨b, off, spot⟩ := a
      have hspot : spot = none := by simpa [Addr.add] using World.cell?_spot (hQ 0 (by omega)).1
      subst hspot
      refine ⟨b, off, fun i => (Q i).1, fun i => (Q i).2, by unfold maxLen at hm; omega, fun _ => rfl, fun _ => ?_, fun i hi => ?_⟩
      · exact lt_of_cell (by have := (hQ 0 (by omega)).1; rw [Go.WideShapes.add_plain] at this; exact this)
      · have := hQ i (by omega)
        rw [Go.WideShapes.add_plain, Go.WideShapes.add_plain] at this
        exact this

set_option maxRecDepth 100000 in
theorem lifted (os : Os) (started : os.Started) (H : Type) (enc : TypeId × Value → H) :
    ReturnsInHanded {} Try.checked os 3 .any (Rows.fnFailureUnwrapWalksChainSpec.pre6 enc Try.prog Try.f3 Rows.fnFailureUnwrapWalksChainRow.domain false) (Rows.fnFailureUnwrapWalksChainSpec.post enc Try.prog Try.f3 false true false false) := by
  refine returnsInHanded_of_change (C := Try.checked) own started (by kernel_rfl) Try.func3
    (ChangeSpec.witness6 (enc := enc) (C := Try.checked) false ⟨#[], #[.agg #[.string ByteArray.empty, .string ByteArray.empty], .slice none 0 0], []⟩ 8 (by kernel_rfl) (by kernel_rfl) (by kernel_rfl) (by kernel_rfl)) ?_
  intro W base args ds gs before hval0 hW hcnd _
  have hval : ∀ (j : Nat) t v, Try.f3.params[j]? = some t → args[j]? = some v → Value.okWide Try.prog W .any base t v := hval0
  have hW' := hW
  obtain ⟨p, q, hA0, hV, rfl, hfz, hnd⟩ := hW
  have hA : DataW.TrodAll enc Try.prog W 0 (fun _ => true) true Try.f3.params.toList args.toList ds p := hA0
  rw [Try.params3] at hA hval
  obtain ⟨v0, v1, d0, d1, p0, p1, rfl, rfl, rfl, h0, h1⟩ := trodAll_two hA
  obtain ⟨rfl, rfl⟩ := trodVars_none hV
  have lt0 : ∀ x ∈ p0, x.block < W.heap.size := by obtain ⟨m, hm⟩ := h0; exact DataW.trod_lt m _ _ _ hm
  have lt1 : ∀ x ∈ p1, x.block < W.heap.size := by obtain ⟨m, hm⟩ := h1; exact DataW.trod_lt m _ _ _ hm
  obtain ⟨a0, len, cap, rfl⟩ := okWide_slice Try.underlying24 (hval 1 24 v1 rfl rfl)
  obtain ⟨b, off, P, M, hArg⟩ := open_arg h1
  obtain ⟨c0, c1, y0, y1, m, rfl, _, _, hy0, hy1⟩ := open_agg2 Try.underlying23 (by kernel_rfl) cells23 (hval 0 23 v0 rfl rfl) h0
  obtain ⟨s0, e0, _⟩ := DataW.trod_string Try.underlying9 hy0
  obtain ⟨s1, e1, _⟩ := DataW.trod_string Try.underlying9 hy1
  simp at e0 e1
  subst e0 e1
  clear hA0 hval0 hy0 hy1
  refine (chain_any s0 s1 W cap hArg).mono fun e W' ⟨he, bel⟩ => ?_
  subst he
  exact ⟨_, rfl, _, _, _, [], _, [], hW', trodAll_mk1 (shut_bool Try.underlying4 _), (trodAll_cons_mk (Below.trod laidOut (by kernel_rfl) (of_decide_eq_true (by kernel_rfl)) h0 bel lt0) (trodAll_cons_mk (Below.trod laidOut (by kernel_rfl) (of_decide_eq_true (by kernel_rfl)) h1 bel lt1) trodAll_mk0)), rfl, bel.frame _, fun h => by cases h⟩

theorem over : Rows.fnFailureUnwrapWalksChainRow.holds Try.pinned (OpenSpec.ofChange Rows.fnFailureUnwrapWalksChainSpec) :=
  OpenClaim.holds_of_wide 3 Try.f3 rfl rfl rfl rfl rfl rfl rfl ⟨rfl, rfl, rfl, rfl, rfl⟩ rfl rfl rfl rfl rfl (by kernel_rfl) Try.func3 (by kernel_rfl)
    (of_decide_eq_true (by kernel_rfl)) (by unfold Func.isWrapper; rw [if_neg (by decide +kernel)]; exact ⟨rfl, rfl⟩)
    (fun os started H enc _ => lifted os started H enc)
end Go.Proofs.Qxb6615933a.UnwrapWalksChain

namespace Go.Proofs.Qxb6615933a
/-- THE STATEMENT. -/
theorem fnFailureUnwrapWalksChain_proved : Rows.FnFailureUnwrapWalksChainSaid := UnwrapWalksChain.over
end Go.Proofs.Qxb6615933a
