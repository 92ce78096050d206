import Derived.Test.Qxb6628627aFmtProg
import Derived.Stop.CallBack
import Derived.Stop.IfaceNil
import GoSem.ClaimData
namespace Go.Proofs.Qxb6628627aFmt
open Go.Extern.Stop Go.Stop Go.Extern

theorem call9 (args : Array Value) (w : World) : (callFunc 9 args).run Tryf.prog w = ((FmtStop.sprintf #[9, 49] #[9] args).run Tryf.prog w).andThen fun v w' => .ok (.value v) w' :=
  run_callFunc_extern Tryf.func9 (by kernel_rfl) (by kernel_rfl) (by kernel_rfl) (by kernel_rfl) args w
theorem fguard (name : String) (w : World) : (FmtStop.guard name).run Tryf.prog w = .ok () w := by kernel_rfl
def shape2 : List UInt8 := [5, 5, 0, 0, 0, 0, 0, 0, 0, 105, 110, 116, 54, 52]
theorem op2_100 (name : String) (x : Int) (w : World) : (FmtStop.operand name false 100 false (.iface 2 (.int .i64 x))).run Tryf.prog w = .ok (shape2, Go.Extern.Stop.digits 8 (x % 2 ^ 64).toNat) w := by kernel_rfl
theorem strict2 (name : String) (x : Int) (w : World) : (FmtStop.strict name (.iface 2 (.int .i64 x))).run Tryf.prog w = .ok (shape2, Go.Extern.Stop.digits 8 (x % 2 ^ 64).toNat) w := by kernel_rfl
/-- the format of the line -/
def fLine : List UInt8 := [114, 101, 97, 100, 32, 37, 100, 32, 100, 105, 115, 99, 97, 114, 100, 101, 100, 32, 37, 100, 32, 115, 101, 110, 116, 32, 37, 100, 32, 97, 99, 107, 110, 111, 119, 108, 101, 100, 103, 101, 100, 32, 37, 100, 32, 114, 101, 106, 101, 99, 116, 101, 100, 32, 37, 100, 32, 114, 101, 116, 114, 105, 101, 100, 32, 37, 100, 32, 100, 114, 111, 112, 112, 101, 100, 32, 37, 100]
/-- the format of its end -/
def fMal : List UInt8 := [32, 109, 97, 108, 102, 111, 114, 109, 101, 100, 32, 37, 100]
theorem fmtMal (w : World) : (FmtDoors.printed ⟨#[32, 109, 97, 108, 102, 111, 114, 109, 101, 100, 32, 37, 100]⟩ 1).run Tryf.prog w = .ok [(0, 100, false)] w := by kernel_rfl
theorem fmtLine (w : World) : (FmtDoors.printed ⟨#[114, 101, 97, 100, 32, 37, 100, 32, 100, 105, 115, 99, 97, 114, 100, 101, 100, 32, 37, 100, 32, 115, 101, 110, 116, 32, 37, 100, 32, 97, 99, 107, 110, 111, 119, 108, 101, 100, 103, 101, 100, 32, 37, 100, 32, 114, 101, 106, 101, 99, 116, 101, 100, 32, 37, 100, 32, 114, 101, 116, 114, 105, 101, 100, 32, 37, 100, 32, 100, 114, 111, 112, 112, 101, 100, 32, 37, 100]⟩ 7).run Tryf.prog w = .ok [(0, 100, false), (1, 100, false), (2, 100, false), (3, 100, false), (4, 100, false), (5, 100, false), (6, 100, false)] w := by kernel_rfl
theorem fmtMal0 : FmtStop.printed? ⟨#[32, 109, 97, 108, 102, 111, 114, 109, 101, 100, 32, 37, 100]⟩ 1 = some [(0, 100, false)] := by kernel_rfl
theorem fmtLine0 : FmtStop.printed? ⟨#[114, 101, 97, 100, 32, 37, 100, 32, 100, 105, 115, 99, 97, 114, 100, 101, 100, 32, 37, 100, 32, 115, 101, 110, 116, 32, 37, 100, 32, 97, 99, 107, 110, 111, 119, 108, 101, 100, 103, 101, 100, 32, 37, 100, 32, 114, 101, 106, 101, 99, 116, 101, 100, 32, 37, 100, 32, 114, 101, 116, 114, 105, 101, 100, 32, 37, 100, 32, 100, 114, 111, 112, 112, 101, 100, 32, 37, 100]⟩ 7 = some [(0, 100, false), (1, 100, false), (2, 100, false), (3, 100, false), (4, 100, false), (5, 100, false), (6, 100, false)] := by kernel_rfl
end Go.Proofs.Qxb6628627aFmt
