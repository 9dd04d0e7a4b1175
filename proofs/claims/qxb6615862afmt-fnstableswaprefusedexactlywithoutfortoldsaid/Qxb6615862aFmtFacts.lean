/-
  THE CLOSED FACTS FOR A WALK OVER fmt's STOPPED FRONTS at this seat's dump (after the worked HexbadFmt.lean, typed by hand for this program).
-/
import Derived.Test.Qxb6615862aFmtProg
import Derived.Stop.CallBack
import Derived.Stop.IfaceNil
import GoSem.ClaimData
import Derived.Stop.FmtTextKit
namespace Go.Proofs
open Go.Extern.Stop Go.Stop Go.Extern

-- fmt.Sprintf: function 14: a stop that calls its operands' methods
@[go_sem] theorem Tryf.call14 (args : Array Value) (w : World) : (callFunc 14 args).run Tryf.prog w = (FmtCalls.sprintf #[9, 78] #[9] args).run Tryf.prog w :=
  run_callFunc_next Tryf.func14 (by kernel_rfl) (by kernel_rfl) (by kernel_rfl) args w
@[go_sem] theorem Tryf.guard (name : String) (w : World) : (FmtStop.guard name).run Tryf.prog w = .ok () w := by kernel_rfl
theorem Tryf.nextTurns : Extern.next FmtCalls.turnsRow = some (FmtCalls.begun #[] #[]) := by kernel_rfl

-- the format of (*LineError).Error: 'line %d: %v', 2 operands
@[go_sem] theorem Tryf.fmt0 : FmtStop.printed? ⟨#[108, 105, 110, 101, 32, 37, 100, 58, 32, 37, 118]⟩ 2 = some [(0, 100, false), (1, 118, false)] := by kernel_rfl
theorem Tryf.fmt0t : (FmtText.parse [108, 105, 110, 101, 32, 37, 100, 58, 32, 37, 118]).map FmtText.glue = some [.lit [108, 105, 110, 101, 32], .verb {} 100, .lit [58, 32], .verb {} 118] := by rfl

-- type 3: int
theorem Tryf.name3 : Tryf.prog.typeName? 3 3 = some "int" := by kernel_rfl
def Tryf.shape3 : List UInt8 := [5, 3, 0, 0, 0, 0, 0, 0, 0, 105, 110, 116]
@[go_sem] theorem Tryf.act3_100 (name : String) (x : Value) (w : World) : (FmtCalls.act name false 100 false (.iface 3 x)).run Tryf.prog w = .ok (.closed false) w := by kernel_rfl
@[go_sem] theorem Tryf.op3_100 (name : String) (x : Int) (w : World) : (FmtStop.operand name false 100 false (.iface 3 (.int .i64 x))).run Tryf.prog w = .ok (Tryf.shape3, Go.Extern.Stop.digits 8 (x % 2 ^ 64).toNat) w := by kernel_rfl

-- type 53: *errors.errorString
@[go_sem] theorem Tryf.act53_118 (name : String) (x : Value) (w : World) : (FmtCalls.act name false 118 false (.iface 53 x)).run Tryf.prog w = .ok (.closed false) w := by kernel_rfl
def Tryf.plain53 : List UInt8 := 14 :: FmtStop.pack [42, 101, 114, 114, 111, 114, 115, 46, 101, 114, 114, 111, 114, 83, 116, 114, 105, 110, 103]
theorem Tryf.str53 : Tryf.t53.str.toByteArray.data.toList = [42, 101, 114, 114, 111, 114, 115, 46, 101, 114, 114, 111, 114, 83, 116, 114, 105, 110, 103] := by kernel_rfl
theorem Tryf.opPlain53_118 (name : String) (a : Addr) (s : ByteArray) (w : World) (hc : w.cell? a = some (.string s)) :
    (FmtStop.operand name false 118 false (.iface 53 (.pointer (some a)))).run Tryf.prog w = .ok (Tryf.plain53, s.data.toList) w := by
  have h1 : (typeStr 53).run Tryf.prog w = .ok Tryf.t53.str w := by kernel_rfl
  have d2 : Tryf.t53.desc = .pointer 55 := rfl
  have d3 : Tryf.t55.desc = .named "errors.errorString" 54 := rfl
  simp [FmtStop.operand, h1, d2, d3, run_load, hc, Tryf.plain53, Tryf.str53]
end Go.Proofs
