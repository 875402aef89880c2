/-
  The closed facts for a walk over fmt.Sprintf, function 10 of this dump (a plain stop): the two formats of SourceFilePos.String (bytes 37 100 and 58 37 100), one int operand. Typed by hand after the kit's NameFmt files (the generator is not in this box).
-/
import Derived.Test.YoediwFmtChecked
import Derived.KernelRfl
import Derived.Stop.CallBack
import Derived.Stop.IfaceNil
import GoSem.ClaimData
namespace Go.Proofs.YoediwFmt
open Go.Extern.Stop Go.Stop Go.Extern

theorem Edig.call10 (args : Array Value) (w : World) : (callFunc 10 args).run Edig.prog w = ((FmtStop.sprintf #[9, 48] #[9] args).run Edig.prog w).andThen fun v w' => .ok (.value v) w' :=
  run_callFunc_extern Edig.func10 (by kernel_rfl) (by kernel_rfl) (by kernel_rfl) (by kernel_rfl) args w

theorem Edig.guard (name : String) (w : World) : (FmtStop.guard name).run Edig.prog w = .ok () w := by kernel_rfl

theorem Edig.fmtA : FmtStop.printed? ⟨#[37, 100]⟩ 1 = some [(0, 100, false)] := by kernel_rfl
theorem Edig.fmtAr (w : World) : (FmtDoors.printed ⟨#[37, 100]⟩ 1).run Edig.prog w = .ok [(0, 100, false)] w := by kernel_rfl
theorem Edig.fmtB : FmtStop.printed? ⟨#[58, 37, 100]⟩ 1 = some [(0, 100, false)] := by kernel_rfl
theorem Edig.fmtBr (w : World) : (FmtDoors.printed ⟨#[58, 37, 100]⟩ 1).run Edig.prog w = .ok [(0, 100, false)] w := by kernel_rfl

def Edig.shape3 : List UInt8 := [5, 3, 0, 0, 0, 0, 0, 0, 0, 105, 110, 116]
theorem Edig.op3_100 (name : String) (x : Int) (w : World) : (FmtStop.operand name false 100 false (.iface 3 (.int .i64 x))).run Edig.prog w = .ok (Edig.shape3, Go.Extern.Stop.digits 8 (x % 2 ^ 64).toNat) w := by kernel_rfl

end Go.Proofs.YoediwFmt
