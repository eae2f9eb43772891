/-
  The closed facts for a walk over the stopped fmt.errorf (function 12) at this seat's two formats. Own work.
-/
import Derived.Test.YbulkbsbaFmtRows
import Derived.Test.YbulkbsbaFmtCards
import Derived.Stop.IfaceNil
import Derived.Stop.CallBack
namespace Go.Proofs.YbulkbsbaFmt
open Go.Extern.Stop Go.Stop Go.Extern

theorem call12 (args : Array Value) (w : World) : (callFunc 12 args).run Ybaf.prog w = ((FmtStop.errorf #[9, 39] #[23] args).run Ybaf.prog w).andThen fun v w' => .ok (.value v) w' :=
  run_callFunc_extern Ybaf.func12 (by kernel_rfl) (by kernel_rfl) (by kernel_rfl) (by kernel_rfl) args w

theorem guardOk (name : String) (w : World) : (FmtStop.guard name).run Ybaf.prog w = .ok () w := by kernel_rfl

theorem fmt0r (w : World) : (FmtDoors.printed ⟨#[37, 100, 32, 98, 121, 116, 101, 115, 44, 32, 109, 111, 114, 101, 32, 116, 104, 97, 110, 32, 97, 110, 32, 65, 67, 76, 39, 115, 32, 37, 100]⟩ 2).run Ybaf.prog w = .ok [(0, 100, false), (1, 100, false)] w := by kernel_rfl

theorem fmt1r (w : World) : (FmtDoors.printed ⟨#[111, 102, 102, 115, 101, 116, 32, 37, 35, 120, 32, 105, 115, 32, 110, 111, 116, 32, 119, 105, 116, 104, 105, 110, 32, 116, 104, 101, 32, 37, 100, 32, 98, 121, 116, 101, 115, 32, 97, 102, 116, 101, 114, 32, 116, 104, 101, 32, 104, 101, 97, 100, 101, 114]⟩ 2).run Ybaf.prog w = .ok [(0, 120, true), (1, 100, false)] w := by kernel_rfl

def shape3 : List UInt8 := [5, 3, 0, 0, 0, 0, 0, 0, 0, 105, 110, 116]
def shape29 : List UInt8 := [8, 6, 0, 0, 0, 0, 0, 0, 0, 117, 105, 110, 116, 51, 50]
theorem op3d (x : Int) (w : World) : (FmtStop.operand "fmt.errorf" true 100 false (.iface 3 (.int .i64 x))).run Ybaf.prog w = .ok (shape3, Go.Extern.Stop.digits 8 (x % 2 ^ 64).toNat) w := by kernel_rfl
theorem op29x (x : Int) (w : World) : (FmtStop.operand "fmt.errorf" true 120 true (.iface 29 (.int .u32 x))).run Ybaf.prog w = .ok (shape29, Go.Extern.Stop.digits 8 (x % 2 ^ 64).toNat) w := by kernel_rfl

theorem ptr42 (w : World) : (FmtStop.ptrTo "errors.errorString").run Ybaf.prog w = .ok 42 w := by kernel_rfl
theorem elem42 (w : World) : (elemOf 42).run Ybaf.prog w = .ok 44 w := by kernel_rfl

theorem info5 : Ybaf.prog.info? 5 = some Ybaf.t5 := by kernel_rfl
theorem own : ownKnob Ybaf.prog.godebug = none := by kernel_rfl
theorem laidOut : laidOutB Ybaf.pinned.checked.prog = true := by kernel_rfl
theorem stops : Ybaf.pinned.checked.prog.stops = ["fmt.errorf"] := by kernel_rfl
theorem stopKnobs : Ybaf.pinned.checked.prog.stopKnobs = [] := by kernel_rfl
theorem quiet (os : Os) : Stop.quiet Ybaf.pinned.checked.prog os := by
  intro k hk
  rw [stopKnobs] at hk
  cases hk

end Go.Proofs.YbulkbsbaFmt
