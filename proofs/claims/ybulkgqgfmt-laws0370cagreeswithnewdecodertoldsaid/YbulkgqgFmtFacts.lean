/-
  THE CLOSED FACTS FOR A WALK OVER fmt's STOPPED FRONTS in this program (after the guide's NameFmt files): each by the kernel's own evaluation.
-/
import Derived.Test.YbulkgqgFmtRows
import Derived.Stop.CallBack
import Derived.Stop.IfaceNil
import GoSem.ClaimData
namespace Go.Proofs
open Go.Extern.Stop Go.Stop Go.Extern

-- fmt.errorf: function 16; fmt.Sprintf: function 18: plain stops
@[go_sem] theorem Ybaf.call16 (args : Array Value) (w : World) : (callFunc 16 args).run Ybaf.prog w = ((FmtStop.errorf #[9, 59] #[43] args).run Ybaf.prog w).andThen fun v w' => .ok (.value v) w' :=
  run_callFunc_extern Ybaf.func16 (by kernel_rfl) (by kernel_rfl) (by kernel_rfl) (by kernel_rfl) args w
@[go_sem] theorem Ybaf.call18 (args : Array Value) (w : World) : (callFunc 18 args).run Ybaf.prog w = ((FmtStop.sprintf #[9, 59] #[9] args).run Ybaf.prog w).andThen fun v w' => .ok (.value v) w' :=
  run_callFunc_extern Ybaf.func18 (by kernel_rfl) (by kernel_rfl) (by kernel_rfl) (by kernel_rfl) args w

@[go_sem] theorem Ybaf.guard (name : String) (w : World) : (FmtStop.guard name).run Ybaf.prog w = .ok () w := by kernel_rfl

-- the format of Skip's error, three operands
@[go_sem] theorem Ybaf.fmt0 : FmtStop.printed? ⟨#[99, 97, 110, 110, 111, 116, 32, 115, 107, 105, 112, 32, 37, 100, 32, 111, 99, 116, 101, 116, 115, 32, 97, 116, 32, 111, 102, 102, 115, 101, 116, 32, 37, 100, 44, 32, 37, 115, 32, 108, 101, 102, 116]⟩ 3 = some [(0, 100, false), (1, 100, false), (2, 115, false)] := by kernel_rfl
@[go_sem] theorem Ybaf.fmt0r (w : World) : (FmtDoors.printed ⟨#[99, 97, 110, 110, 111, 116, 32, 115, 107, 105, 112, 32, 37, 100, 32, 111, 99, 116, 101, 116, 115, 32, 97, 116, 32, 111, 102, 102, 115, 101, 116, 32, 37, 100, 44, 32, 37, 115, 32, 108, 101, 102, 116]⟩ 3).run Ybaf.prog w = .ok [(0, 100, false), (1, 100, false), (2, 115, false)] w := by kernel_rfl
-- the format of plural, two operands
@[go_sem] theorem Ybaf.fmt1 : FmtStop.printed? ⟨#[37, 100, 32, 37, 115, 115]⟩ 2 = some [(0, 100, false), (1, 115, false)] := by kernel_rfl
@[go_sem] theorem Ybaf.fmt1r (w : World) : (FmtDoors.printed ⟨#[37, 100, 32, 37, 115, 115]⟩ 2).run Ybaf.prog w = .ok [(0, 100, false), (1, 115, false)] w := by kernel_rfl

-- what each operand type reads as: 9: string, 3: int, 31: uint64
def Ybaf.shape9 : List UInt8 := [12, 6, 0, 0, 0, 0, 0, 0, 0, 115, 116, 114, 105, 110, 103]
@[go_sem] theorem Ybaf.op9_115 (name : String) (x : ByteArray) (w : World) : (FmtStop.operand name false 115 false (.iface 9 (.string x))).run Ybaf.prog w = .ok (Ybaf.shape9, FmtStop.pack x.data.toList) w := by kernel_rfl
@[go_sem] theorem Ybaf.op9_115w (name : String) (x : ByteArray) (w : World) : (FmtStop.operand name true 115 false (.iface 9 (.string x))).run Ybaf.prog w = .ok (Ybaf.shape9, FmtStop.pack x.data.toList) w := by kernel_rfl
def Ybaf.shape3 : List UInt8 := [5, 3, 0, 0, 0, 0, 0, 0, 0, 105, 110, 116]
@[go_sem] theorem Ybaf.op3_100w (name : String) (x : Int) (w : World) : (FmtStop.operand name true 100 false (.iface 3 (.int .i64 x))).run Ybaf.prog w = .ok (Ybaf.shape3, Go.Extern.Stop.digits 8 (x % 2 ^ 64).toNat) w := by kernel_rfl
def Ybaf.shape31 : List UInt8 := [9, 6, 0, 0, 0, 0, 0, 0, 0, 117, 105, 110, 116, 54, 52]
@[go_sem] theorem Ybaf.op31_100 (name : String) (x : Int) (w : World) : (FmtStop.operand name false 100 false (.iface 31 (.int .u64 x))).run Ybaf.prog w = .ok (Ybaf.shape31, Go.Extern.Stop.digits 8 (x % 2 ^ 64).toNat) w := by kernel_rfl

-- the error type that fmt.errorf makes
@[go_sem] theorem Ybaf.ptr63 (w : World) : (FmtStop.ptrTo "errors.errorString").run Ybaf.prog w = .ok 63 w := by kernel_rfl
@[go_sem] theorem Ybaf.elem63 (w : World) : (elemOf 63).run Ybaf.prog w = .ok 65 w := by kernel_rfl
end Go.Proofs
