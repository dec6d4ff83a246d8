/-
  Seat b6002417aF: the closed facts for a walk over fmt.errorf's stop at this translation (after the guide's CheckFmt.lean): the two formats, a rune as operand, the error type made.
-/
import Derived.Test.Qxb6002417aFmtProg
import Derived.Stop.CallBack
import Derived.Stop.IfaceNil
import GoSem.ClaimData
namespace Go.Proofs
open Go.Extern.Stop Go.Stop Go.Extern

@[go_sem] theorem Tryf.call13 (args : Array Value) (w : World) : (callFunc 13 args).run Tryf.prog w = ((FmtStop.errorf #[9, 39] #[29] args).run Tryf.prog w).andThen fun v w' => .ok (.value v) w' :=
  run_callFunc_extern Tryf.func13 (by kernel_rfl) (by kernel_rfl) (by kernel_rfl) (by kernel_rfl) args w

@[go_sem] theorem Tryf.guard (name : String) (w : World) : (FmtStop.guard name).run Tryf.prog w = .ok () w := by kernel_rfl

@[go_sem] theorem Tryf.fmt0 : FmtStop.printed? ⟨#[117, 110, 107, 110, 111, 119, 110, 32, 102, 108, 97, 103, 32, 37, 113]⟩ 1 = some [(0, 113, false)] := by kernel_rfl
@[go_sem] theorem Tryf.fmt0r (w : World) : (FmtDoors.printed ⟨#[117, 110, 107, 110, 111, 119, 110, 32, 102, 108, 97, 103, 32, 37, 113]⟩ 1).run Tryf.prog w = .ok [(0, 113, false)] w := by kernel_rfl
@[go_sem] theorem Tryf.fmt1 : FmtStop.printed? ⟨#[102, 108, 97, 103, 32, 37, 113, 32, 103, 105, 118, 101, 110, 32, 116, 119, 105, 99, 101]⟩ 1 = some [(0, 113, false)] := by kernel_rfl
@[go_sem] theorem Tryf.fmt1r (w : World) : (FmtDoors.printed ⟨#[102, 108, 97, 103, 32, 37, 113, 32, 103, 105, 118, 101, 110, 32, 116, 119, 105, 99, 101]⟩ 1).run Tryf.prog w = .ok [(0, 113, false)] w := by kernel_rfl

def Tryf.shape21 : List UInt8 := [4, 5, 0, 0, 0, 0, 0, 0, 0, 105, 110, 116, 51, 50]
@[go_sem] theorem Tryf.op21_113 (name : String) (x : Int) (w : World) : (FmtStop.operand name false 113 false (.iface 21 (.int .i32 x))).run Tryf.prog w = .ok (Tryf.shape21, Go.Extern.Stop.digits 8 (x % 2 ^ 64).toNat) w := by kernel_rfl
@[go_sem] theorem Tryf.op21_113w (name : String) (x : Int) (w : World) : (FmtStop.operand name true 113 false (.iface 21 (.int .i32 x))).run Tryf.prog w = .ok (Tryf.shape21, Go.Extern.Stop.digits 8 (x % 2 ^ 64).toNat) w := by kernel_rfl
@[go_sem] theorem Tryf.strict21 (name : String) (x : Int) (w : World) : (FmtStop.strict name (.iface 21 (.int .i32 x))).run Tryf.prog w = .ok (Tryf.shape21, Go.Extern.Stop.digits 8 (x % 2 ^ 64).toNat) w := by kernel_rfl

@[go_sem] theorem Tryf.ptr36 (w : World) : (FmtStop.ptrTo "errors.errorString").run Tryf.prog w = .ok 36 w := by kernel_rfl
@[go_sem] theorem Tryf.elem36 (w : World) : (elemOf 36).run Tryf.prog w = .ok 38 w := by kernel_rfl
@[go_sem] theorem Tryf.isError36 (w : World) : (FmtDoors.textMethod 36 "Error").run Tryf.prog w = .ok true w := by kernel_rfl
@[go_sem] theorem Tryf.ptr40 (w : World) : (FmtStop.ptrTo "fmt.wrapError").run Tryf.prog w = .ok 40 w := by kernel_rfl
@[go_sem] theorem Tryf.isError40 (w : World) : (FmtDoors.textMethod 40 "Error").run Tryf.prog w = .ok true w := by kernel_rfl
end Go.Proofs
