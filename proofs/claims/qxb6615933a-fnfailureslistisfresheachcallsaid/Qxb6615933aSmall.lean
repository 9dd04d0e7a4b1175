/-
  THE WALKS OF THE SMALL FUNCTIONS over the seat b6615933a: addLen, ZZfailureWrapping, Unwrap, ZZasFailure.
-/
import Derived.Test.Qxb6615933aProg
import Derived.WalkKit
import Derived.WalkSpells
namespace Go.Proofs.Qxb6615933a
open Go.RowKit

/-- What addLen, addPathMsgs and addData give: a number within the limit, and a bool. -/
def SumPost (e : Ending) : Prop := ∃ (t' : Int) (ok : Bool), 0 ≤ t' ∧ t' ≤ 1048576 ∧ e = .returned (.tuple #[.int .i64 t', .bool ok])

set_option maxHeartbeats 400000 in
theorem addLen_any (t n : Int) (w : World) (h0 : 0 ≤ t) (h1 : t ≤ 1048576) (h2 : 0 ≤ n) :
    Calls Try.prog 24 #[.int .i64 t, .int .i64 n] w fun e w' => SumPost e ∧ w' = w := by
  by_cases h : 1048576 - t < n
  · go_enter Try.func24, Try.ntmps24
    go_wp2
    go_ret2
    exact ⟨⟨t, false, h0, h1, rfl⟩, rfl⟩
  · go_enter Try.func24, Try.ntmps24
    go_wp2
    go_ret2
    exact ⟨⟨t + n, true, by omega, by omega, rfl⟩, rfl⟩

set_option maxHeartbeats 400000 in
theorem unwrap_any (p m : ByteArray) (x : Value) (w : World) :
    Calls Try.prog 10 #[.agg #[.string p, .string m, x]] w fun e w' => e = .returned x ∧ w' = w.alloc (.cells #[.string p, .string m, x] 29) := by
  go_enter Try.func10, Try.ntmps10
  go_wp2
  go_ret
  exact ⟨rfl, rfl⟩

set_option maxHeartbeats 400000 in
theorem wrapping_any (p m p' m' : ByteArray) (x : Value) (w : World) :
    Calls Try.prog 9 #[.string p, .string m, .agg #[.string p', .string m', x]] w fun e w' => e = .returned (.agg #[.string p, .string m, .iface 29 (.agg #[.string p', .string m', x])]) ∧
      w' = (w.alloc (.cells #[.string p', .string m', x] 29)).alloc (.cells #[.string p, .string m, .iface 29 (.agg #[.string p', .string m', x])] 29) := by
  go_enter Try.func9, Try.ntmps9
  go_wp2
  exact bodyPost_ret (v := .agg #[.string p, .string m, .iface 29 (.agg #[.string p', .string m', x])]) (by simp [results, Try.results9, go_sem]) rfl ⟨rfl, rfl⟩

theorem assert29 (x : Value) (w : World) : (Instr.typeAssert (.iface 29 x) 27 29 true).run Try.prog w = .ok (.tuple #[x, .bool true]) w := by kernel_rfl

/-- An error value of this program's: nil, or a Failure. -/
def IsErr (x : Value) : Prop := x = .nilIface ∨ ∃ y, x = .iface 29 y

set_option maxHeartbeats 400000 in
theorem asFailure_any (p m : ByteArray) (x : Value) (w : World) (hx : IsErr x) :
    Calls Try.prog 11 #[.iface 29 (.agg #[.string p, .string m, x])] w fun e w' => e = .returned (.tuple #[.agg #[.string p, .string m, x], .bool true]) ∧
      w' = (w.alloc (.cells #[.string p, .string m, x] 29)).alloc (.cells #[.string p, .string m, x] 29) := by
  have ha := assert29
  rcases hx with rfl | ⟨y, rfl⟩
  · go_enter Try.func11, Try.ntmps11
    go_wp2
    exact bodyPost_ret (v := .tuple #[.agg #[.string p, .string m, .nilIface], .bool true]) (by simp [results, Try.results11, go_sem]) rfl ⟨rfl, rfl⟩
  · go_enter Try.func11, Try.ntmps11
    go_wp2
    exact bodyPost_ret (v := .tuple #[.agg #[.string p, .string m, .iface 29 y], .bool true]) (by simp [results, Try.results11, go_sem]) rfl ⟨rfl, rfl⟩
end Go.Proofs.Qxb6615933a
