/-
  fmt's STOP AT THIS PROGRAM: closed facts for a walk over fmt.errorf (the kit's NameFmt texts, turned to this program): each by the kernel's own evaluation.
-/
import Derived.Test.Qxb6619599aFmtRows
import Derived.Stop.CallBack
import Derived.Stop.IfaceNil
import GoSem.ClaimData
namespace Go.Proofs.Qxb6619599aFmt
open Go.Extern.Stop Go.Stop Go.Extern

/-- fmt.errorf is function 10: a plain stop. -/
theorem stop_call (args : Array Value) (w : World) : (callFunc 10 args).run Tryf.prog w = ((FmtStop.errorf #[9, 29] #[24] args).run Tryf.prog w).andThen fun v w' => .ok (.value v) w' :=
  run_callFunc_extern Tryf.func10 (by kernel_rfl) (by kernel_rfl) (by kernel_rfl) (by kernel_rfl) args w

theorem stop_guard (name : String) (w : World) : (FmtStop.guard name).run Tryf.prog w = .ok () w := by kernel_rfl

/-- The bytes of CheckIndex's format. -/
theorem fmt_index : FmtStop.printed? ⟨#[108, 101, 97, 102, 32, 105, 110, 100, 101, 120, 32, 37, 100, 32, 105, 115, 32, 110, 111, 116, 32, 98, 101, 108, 111, 119, 32, 116, 104, 101, 32, 116, 114, 101, 101, 32, 115, 105, 122, 101, 32, 37, 100]⟩ 2 = some [(0, 100, false), (1, 100, false)] := by kernel_rfl
theorem fmt_index_run (w : World) : (FmtDoors.printed ⟨#[108, 101, 97, 102, 32, 105, 110, 100, 101, 120, 32, 37, 100, 32, 105, 115, 32, 110, 111, 116, 32, 98, 101, 108, 111, 119, 32, 116, 104, 101, 32, 116, 114, 101, 101, 32, 115, 105, 122, 101, 32, 37, 100]⟩ 2).run Tryf.prog w = .ok [(0, 100, false), (1, 100, false)] w := by kernel_rfl
/-- The bytes of CheckSizes's format. -/
theorem fmt_sizes : FmtStop.printed? ⟨#[116, 114, 101, 101, 32, 115, 105, 122, 101, 115, 32, 37, 100, 32, 97, 110, 100, 32, 37, 100, 58, 32, 116, 104, 101, 32, 102, 105, 114, 115, 116, 32, 109, 117, 115, 116, 32, 98, 101, 32, 97, 116, 32, 108, 101, 97, 115, 116, 32, 49, 32, 97, 110, 100, 32, 97, 116, 32, 109, 111, 115, 116, 32, 116, 104, 101, 32, 115, 101, 99, 111, 110, 100]⟩ 2 = some [(0, 100, false), (1, 100, false)] := by kernel_rfl
theorem fmt_sizes_run (w : World) : (FmtDoors.printed ⟨#[116, 114, 101, 101, 32, 115, 105, 122, 101, 115, 32, 37, 100, 32, 97, 110, 100, 32, 37, 100, 58, 32, 116, 104, 101, 32, 102, 105, 114, 115, 116, 32, 109, 117, 115, 116, 32, 98, 101, 32, 97, 116, 32, 108, 101, 97, 115, 116, 32, 49, 32, 97, 110, 100, 32, 97, 116, 32, 109, 111, 115, 116, 32, 116, 104, 101, 32, 115, 101, 99, 111, 110, 100]⟩ 2).run Tryf.prog w = .ok [(0, 100, false), (1, 100, false)] w := by kernel_rfl

/-- uint64 as an operand. -/
def shape22 : List UInt8 := [9, 6, 0, 0, 0, 0, 0, 0, 0, 117, 105, 110, 116, 54, 52]
theorem op22 (name : String) (x : Int) (w : World) : (FmtStop.operand name false 100 false (.iface 22 (.int .u64 x))).run Tryf.prog w = .ok (shape22, Go.Extern.Stop.digits 8 (x % 2 ^ 64).toNat) w := by kernel_rfl
theorem op22w (name : String) (x : Int) (w : World) : (FmtStop.operand name true 100 false (.iface 22 (.int .u64 x))).run Tryf.prog w = .ok (shape22, Go.Extern.Stop.digits 8 (x % 2 ^ 64).toNat) w := by kernel_rfl
theorem strict22 (name : String) (x : Int) (w : World) : (FmtStop.strict name (.iface 22 (.int .u64 x))).run Tryf.prog w = .ok (shape22, Go.Extern.Stop.digits 8 (x % 2 ^ 64).toNat) w := by kernel_rfl

/-- The error that fmt.errorf makes. -/
theorem ptr32 (w : World) : (FmtStop.ptrTo "errors.errorString").run Tryf.prog w = .ok 32 w := by kernel_rfl
theorem elem32 (w : World) : (elemOf 32).run Tryf.prog w = .ok 34 w := by kernel_rfl
theorem isError32 (w : World) : (FmtDoors.textMethod 32 "Error").run Tryf.prog w = .ok true w := by kernel_rfl
theorem ptr31 (w : World) : (FmtStop.ptrTo "fmt.wrapError").run Tryf.prog w = .ok 31 w := by kernel_rfl
theorem elem31 (w : World) : (elemOf 31).run Tryf.prog w = .ok 52 w := by kernel_rfl
theorem isError31 (w : World) : (FmtDoors.textMethod 31 "Error").run Tryf.prog w = .ok true w := by kernel_rfl
end Go.Proofs.Qxb6619599aFmt
