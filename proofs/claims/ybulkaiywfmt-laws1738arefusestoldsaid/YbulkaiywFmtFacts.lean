/-
  The closed facts for a walk over fmt.errorf (function 7: a plain stop) at this dump: the two literal formats, the operand types string (9) and int (3).
-/
import Derived.Test.YbulkaiywFmtProg
import Derived.Stop.CallBack
import Derived.Stop.IfaceNil
import GoSem.ClaimData
namespace Go.Proofs.YbulkaiywFmt
open Go.Extern.Stop Go.Stop Go.Extern

@[go_sem] theorem call7 (args : Array Value) (w : World) : (callFunc 7 args).run Ybaf.prog w = ((FmtStop.errorf #[9, 34] #[29] args).run Ybaf.prog w).andThen fun v w' => .ok (.value v) w' :=
  run_callFunc_extern Ybaf.func7 (by kernel_rfl) (by kernel_rfl) (by kernel_rfl) (by kernel_rfl) args w
@[go_sem] theorem guard (name : String) (w : World) : (FmtStop.guard name).run Ybaf.prog w = .ok () w := by kernel_rfl
@[go_sem] theorem fmt0 : FmtStop.printed? ⟨#[37, 115, 58, 32, 110, 111, 32, 112, 114, 105, 99, 101, 32, 102, 111, 114, 32, 37, 115]⟩ 2 = some [(0, 115, false), (1, 115, false)] := by kernel_rfl
@[go_sem] theorem fmt0r (w : World) : (FmtDoors.printed ⟨#[37, 115, 58, 32, 110, 111, 32, 112, 114, 105, 99, 101, 32, 102, 111, 114, 32, 37, 115]⟩ 2).run Ybaf.prog w = .ok [(0, 115, false), (1, 115, false)] w := by kernel_rfl
@[go_sem] theorem fmt1 : FmtStop.printed? ⟨#[37, 115, 58, 32, 110, 111, 32, 112, 114, 105, 99, 101, 32, 102, 111, 114, 32, 37, 100, 32, 111, 102, 32, 37, 100, 32, 104, 101, 108, 100, 32, 115, 101, 99, 117, 114, 105, 116, 105, 101, 115, 44, 32, 116, 104, 101, 32, 102, 105, 114, 115, 116, 32, 37, 115]⟩ 4 = some [(0, 115, false), (1, 100, false), (2, 100, false), (3, 115, false)] := by kernel_rfl
@[go_sem] theorem fmt1r (w : World) : (FmtDoors.printed ⟨#[37, 115, 58, 32, 110, 111, 32, 112, 114, 105, 99, 101, 32, 102, 111, 114, 32, 37, 100, 32, 111, 102, 32, 37, 100, 32, 104, 101, 108, 100, 32, 115, 101, 99, 117, 114, 105, 116, 105, 101, 115, 44, 32, 116, 104, 101, 32, 102, 105, 114, 115, 116, 32, 37, 115]⟩ 4).run Ybaf.prog w = .ok [(0, 115, false), (1, 100, false), (2, 100, false), (3, 115, false)] w := by kernel_rfl
def shape9 : List UInt8 := [12, 6, 0, 0, 0, 0, 0, 0, 0, 115, 116, 114, 105, 110, 103]
@[go_sem] theorem op9_115w (name : String) (x : ByteArray) (w : World) : (FmtStop.operand name true 115 false (.iface 9 (.string x))).run Ybaf.prog w = .ok (shape9, FmtStop.pack x.data.toList) w := by kernel_rfl
def shape3 : List UInt8 := [5, 3, 0, 0, 0, 0, 0, 0, 0, 105, 110, 116]
@[go_sem] theorem op3_100w (name : String) (x : Int) (w : World) : (FmtStop.operand name true 100 false (.iface 3 (.int .i64 x))).run Ybaf.prog w = .ok (shape3, Go.Extern.Stop.digits 8 (x % 2 ^ 64).toNat) w := by kernel_rfl
@[go_sem] theorem ptr37 (w : World) : (FmtStop.ptrTo "errors.errorString").run Ybaf.prog w = .ok 37 w := by kernel_rfl
@[go_sem] theorem elem37 (w : World) : (elemOf 37).run Ybaf.prog w = .ok 39 w := by kernel_rfl

end Go.Proofs.YbulkaiywFmt
