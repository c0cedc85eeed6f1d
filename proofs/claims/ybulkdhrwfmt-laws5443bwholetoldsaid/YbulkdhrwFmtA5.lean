/- fmt.Errorf at the one format of the road; 'argument' where it ends there. -/
import Derived.Test.YbulkdhrwFmtA4
import Derived.Stop.CallBack
import Derived.Stop.IfaceNil
namespace Go.Proofs.YbulkdhrwFmt
open Go.RowKit Go.Extern.Stop Go.Stop Go.Extern
set_option linter.unusedSimpArgs false
set_option linter.unusedVariables false

theorem call16 (args : Array Value) (w : World) : (callFunc 16 args).run Ybaf.prog w = ((FmtStop.errorf #[9, 60] #[25] args).run Ybaf.prog w).andThen fun v w' => .ok (.value v) w' :=
  run_callFunc_extern Ybaf.func16 (by kernel_rfl) (by kernel_rfl) (by kernel_rfl) (by kernel_rfl) args w
theorem fguard (name : String) (w : World) : (FmtStop.guard name).run Ybaf.prog w = .ok () w := by kernel_rfl
theorem fmt0 : FmtStop.printed? ⟨#[99, 98, 111, 114, 58, 32, 114, 101, 115, 101, 114, 118, 101, 100, 32, 97, 100, 100, 105, 116, 105, 111, 110, 97, 108, 32, 105, 110, 102, 111, 114, 109, 97, 116, 105, 111, 110, 32, 37, 100]⟩ 1 = some [(0, 100, false)] := by kernel_rfl
theorem fmt0r (w : World) : (FmtDoors.printed ⟨#[99, 98, 111, 114, 58, 32, 114, 101, 115, 101, 114, 118, 101, 100, 32, 97, 100, 100, 105, 116, 105, 111, 110, 97, 108, 32, 105, 110, 102, 111, 114, 109, 97, 116, 105, 111, 110, 32, 37, 100]⟩ 1).run Ybaf.prog w = .ok [(0, 100, false)] w := by kernel_rfl
def shape5 : List UInt8 := FmtStop.intCode .u8 :: FmtStop.pack "uint8".toUTF8.data.toList
theorem op5 (name : String) (x : Int) (w : World) : (FmtStop.operand name false 100 false (.iface 5 (.int .u8 x))).run Ybaf.prog w = .ok (shape5, digits 8 (x % 2 ^ 64).toNat) w := by kernel_rfl
theorem op5w (name : String) (x : Int) (w : World) : (FmtStop.operand name true 100 false (.iface 5 (.int .u8 x))).run Ybaf.prog w = .ok (shape5, digits 8 (x % 2 ^ 64).toNat) w := by kernel_rfl
theorem ptrES (w : World) : (FmtStop.ptrTo "errors.errorString").run Ybaf.prog w = .ok 49 w := by kernel_rfl
theorem elemES (w : World) : (elemOf 49).run Ybaf.prog w = .ok 51 w := by kernel_rfl
theorem isErr (w : World) : (FmtDoors.textMethod 49 "Error").run Ybaf.prog w = .ok true w := by kernel_rfl

set_option maxHeartbeats 1000000 in
theorem arg_res (F : Interp) (v0 : Value) (info : Int) (w : World) (hF : F.answers w.tape) (h28 : 28 ≤ info) (h31 : info ≠ 31) (h255 : info ≤ 255) :
    Calls Ybaf.prog 7 #[v0, .int .u8 info] w fun e w' => e = .returned (.tuple #[.int .u64 0, err ⟨w.heap.size + 1, 0, none⟩]) ∧ ∃ s o, w' = ((w.alloc o).alloc (.cells #[.string s] 51)).drew := by
  have hF' := answers_open hF
  have x1 := call16
  have x2 := fguard
  have x3 := fmt0
  have x4 := fmt0r
  have x5 := op5
  have x6 := op5w
  have x7 := ptrES
  have x8 := elemES
  have x9 := isErr
  go_enter Ybaf.func7, Ybaf.ntmps7
  go_wp2
  go_ret2
  exact ⟨rfl, _, _, rfl⟩

end Go.Proofs.YbulkdhrwFmt
