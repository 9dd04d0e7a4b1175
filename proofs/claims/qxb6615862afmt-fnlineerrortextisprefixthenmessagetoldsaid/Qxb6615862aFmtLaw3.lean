/-
  THE LAW's WALK: FnLineErrorTextIsPrefixThenMessage.
-/
import Derived.Test.Qxb6615862aFmtLine
import Derived.Test.Qxb6615862aFmtItoa
import Derived.Stop.FmtTextVerbs
import Derived.Stop.Told
namespace Go.Proofs.Qxb6615862aFmt
open Go.RowKit Go.Kit Go.Extern.Stop Go.Stop Go.Extern

/-- The text of a LineError. -/
def lineText (n : Int) (s : List UInt8) : List UInt8 := [108, 105, 110, 101, 32] ++ Lib.itoa n ++ [58, 32] ++ s

theorem line_text (n : Int) (s : List UInt8) (hw : (Lit.int .i64 n).wf = true) : FmtText.text "fmt.Sprintf" (lineReading n s) = some (lineText n s) := by
  have hi := FmtText.operand_int_at (sh := Tryf.shape3) (k := .i64) rfl rfl n hw
  have hs := FmtText.operand_plain_at (sh := Tryf.plain53) rfl (FmtText.unpack_pack _ (by decide)) s
  rw [lineReading, FmtText.text_sprintf_glued Tryf.fmt0t (FmtText.operands_cons hi (FmtText.operands_cons hs FmtText.operands_nil))]
  simp [FmtText.render, FmtText.printArg_d _ _ hw, FmtText.printArg_v_said, lineText]

/-- ZZlineErrorText, fmt's text told. -/
theorem text_told (F : Interp) (n : Int) (s : ByteArray) (w : World) (hF : F.told.answers w.tape) (hw : (Lit.int .i64 n).wf = true) (hs : s.size ≤ 1048576) :
    Calls Tryf.prog 6 #[.int .i64 n, .string s] w fun e w' => e = .returned (.string ⟨(lineText n s.data.toList).toArray⟩) ∧ Below w.heap.size w w' := by
  refine (text_any F.told n s w hF).mono ?_
  rintro e w' ⟨rfl, hb⟩
  refine ⟨?_, hb⟩
  have hl : s.data.toList.length = s.size := Array.length_toList
  have hit := FmtText.itoa_length_le hw
  have ht := told_string F (line_text n s.data.toList hw) (by simp only [lineText, List.length_append, hl, List.length_cons, List.length_nil]; omega)
  have := textOf_list F.told "fmt.Sprintf" (lineReading n s.data.toList)
  rw [ht] at this
  rw [← this]

theorem int_bounds {n : Int} (hw : (Lit.int .i64 n).wf = true) : -9223372036854775808 ≤ n ∧ n ≤ 9223372036854775807 := by
  simp [Lit.wf, IntKind.min, IntKind.max, IntKind.signed, IntKind.bits] at hw
  exact ⟨by omega, by omega⟩

set_option maxHeartbeats 400000 in
theorem bytes_any (n : Int) (s : ByteArray) (w : World) : Calls Tryf.prog 5 #[.int .i64 n, .string s] w fun e w' => e = .returned (.bool (decide (s.size ≤ 1048576))) ∧ w' = w := by
  by_cases h : s.size ≤ 1048576
  · have hi : ¬ (1048576 : Int) < (s.size : Int) := by omega
    rw [decide_eq_true h]
    go_enter Tryf.func5, Tryf.ntmps5
    go_wp2
    go_ret
    exact ⟨rfl, rfl⟩
  · have hi : (1048576 : Int) < (s.size : Int) := by omega
    rw [decide_eq_false h]
    go_enter Tryf.func5, Tryf.ntmps5
    go_wp2
    go_ret
    exact ⟨rfl, rfl⟩

set_option maxHeartbeats 400000 in
theorem law_long (n : Int) (s : ByteArray) (w : World) (h : ¬ s.size ≤ 1048576) :
    Calls Tryf.prog 3 #[.int .i64 n, .string s] w fun e w' => e = .returned (.bool true) ∧ Below w.heap.size w w' := by
  have hd : decide (s.size ≤ 1048576) = false := decide_eq_false h
  go_enter Tryf.func3, Tryf.ntmps3
  go_wp2_with (go_at_call 5; refine (bytes_any _ _ _).mono ?_; rw [hd]; rintro e w' ⟨rfl, rfl⟩)
  go_ret
  exact ⟨rfl, Below.refl _ _⟩

/-- The same two contracts, each string under a name. -/
theorem text_told' (F : Interp) (n : Int) (s : ByteArray) (w : World) (hF : F.told.answers w.tape) (hw : (Lit.int .i64 n).wf = true) (hs : s.size ≤ 1048576) :
    Calls Tryf.prog 6 #[.int .i64 n, .string s] w fun e w' => ∃ X : ByteArray, e = .returned (.string X) ∧ Hid (X.data.toList = lineText n s.data.toList) ∧ Below w.heap.size w w' :=
  (text_told F n s w hF hw hs).mono fun _ _ ⟨he, hb⟩ => ⟨_, he, rfl, hb⟩
theorem itoa_any' (n : Int) (w : World) (h0 : -9223372036854775808 ≤ n) (h1 : n ≤ 9223372036854775807) :
    Calls Tryf.prog 7 #[.int .i64 n] w fun e w' => ∃ D : ByteArray, e = .returned (.string D) ∧ Hid (D.data.toList = Lib.itoa n) ∧ Below w.heap.size w w' :=
  (itoa_any n w h0 h1).mono fun _ _ ⟨he, hb⟩ => ⟨_, he, rfl, hb⟩

theorem plain_bare (n : Int) (Y D : ByteArray) (hY : Y.data.toList = lineText n []) (hD : D.data.toList = Lib.itoa n) : (Y.toList == ((⟨#[108, 105, 110, 101, 32]⟩ : ByteArray) ++ D ++ ⟨#[58, 32]⟩).toList) = true := by
  rw [ByteArray.toList_eq, ByteArray.toList_eq, hY]
  simp [ByteArray.data_append, hD, lineText]
theorem plain_whole (n : Int) (X Y s : ByteArray) (hX : X.data.toList = lineText n s.data.toList) (hY : Y.data.toList = lineText n []) : (X.toList == (Y ++ s).toList) = true := by
  rw [ByteArray.toList_eq, ByteArray.toList_eq, hX]
  simp [ByteArray.data_append, hY, lineText]

set_option maxHeartbeats 400000 in
theorem law_short (F : Interp) (n : Int) (s : ByteArray) (w : World) (hF : F.told.answers w.tape) (hw : (Lit.int .i64 n).wf = true) (h : s.size ≤ 1048576) :
    Calls Tryf.prog 3 #[.int .i64 n, .string s] w fun e w' => e = .returned (.bool true) ∧ Below w.heap.size w w' := by
  have hd : decide (s.size ≤ 1048576) = true := decide_eq_true h
  have hi : ¬ (1048576 : Int) < (s.size : Int) := by omega
  go_enter Tryf.func3, Tryf.ntmps3
  go_wp2_with (go_at_call 5; refine (bytes_any _ _ _).mono ?_; rw [hd]; rintro e w' ⟨rfl, rfl⟩)
  refine (text_told' F n s _ (by exact hF) hw h).mono ?_
  rintro e w1 ⟨X, rfl, hX, hb1⟩
  have hF1 : F.told.answers w1.tape := by rw [hb1.tape]; exact hF
  go_wp2_with fail
  refine (text_told' F n _ _ (by exact hF1) hw (by decide)).mono ?_
  rintro e w2 ⟨Y, rfl, hY, hb2⟩
  go_wp2_with fail
  obtain ⟨hn0, hn1⟩ := int_bounds hw
  refine (itoa_any' n _ hn0 hn1).mono ?_
  rintro e w3 ⟨D, rfl, hD, hb3⟩
  have hit := FmtText.itoa_length_le hw
  have sD : D.size ≤ 21 := by have := congrArg List.length hD.out; rw [Array.length_toList] at this; exact Nat.le_trans (Nat.le_of_eq this) hit
  have sY : Y.size ≤ 28 := by
    have := congrArg List.length hY.out
    rw [Array.length_toList] at this
    refine Nat.le_trans (Nat.le_of_eq this) ?_
    simp [lineText]; omega
  have e1 := plain_bare n Y D hY.out hD.out
  have e2 := plain_whole n X Y s hX.out hY.out
  clear hit hn0 hn1
  go_wp2
  go_ret
  exact ⟨rfl, (hb1.trans (hb2.mono hb1.size)).trans (hb3.mono (Nat.le_trans hb1.size hb2.size))⟩
end Go.Proofs.Qxb6615862aFmt
