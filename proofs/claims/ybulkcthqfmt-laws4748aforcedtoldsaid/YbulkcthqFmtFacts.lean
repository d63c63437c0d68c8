import Derived.Test.YbulkcthqFmtRows
import Derived.WalkKit
import Derived.Stop.CallBack
import Derived.Stop.IfaceNil
import GoSem.ClaimData
namespace Go.Proofs.YbulkcthqFmt
open Go.RowKit Go.Extern.Stop Go.Stop Go.Extern

theorem Ybaf.call24 (args : Array Value) (w : World) : (callFunc 24 args).run Ybaf.prog w = ((FmtStop.errorf #[9, 84] #[36] args).run Ybaf.prog w).andThen fun v w' => .ok (.value v) w' :=
  run_callFunc_extern Ybaf.func24 (by kernel_rfl) (by kernel_rfl) (by kernel_rfl) (by kernel_rfl) args w
theorem Ybaf.guard (name : String) (w : World) : (FmtStop.guard name).run Ybaf.prog w = .ok () w := by kernel_rfl

/-- the two formats -/
def fA : List UInt8 := [37, 119, 58, 32, 116, 104, 101, 32, 99, 101, 114, 116, 105, 102, 105, 99, 97, 116, 101, 32, 116, 97, 98, 108, 101, 32, 115, 116, 97, 114, 116, 115, 32, 97, 116, 32, 98, 121, 116, 101, 32, 37, 100, 44, 32, 105, 110, 115, 105, 100, 101, 32, 116, 104, 101, 32, 104, 101, 97, 100, 101, 114, 115, 44, 32, 119, 104, 105, 99, 104, 32, 101, 110, 100, 32, 97, 116, 32, 98, 121, 116, 101, 32, 37, 100]
def fB : List UInt8 := [37, 119, 58, 32, 116, 104, 101, 32, 102, 105, 108, 101, 32, 101, 110, 100, 115, 32, 97, 116, 32, 98, 121, 116, 101, 32, 37, 100, 44, 32, 98, 101, 102, 111, 114, 101, 32, 116, 104, 101, 32, 101, 110, 100, 32, 111, 102, 32, 116, 104, 101, 32, 37, 115, 32, 40, 98, 121, 116, 101, 115, 32, 37, 100, 32, 116, 111, 32, 37, 100, 41]
theorem Ybaf.fmtA (w : World) : (FmtDoors.printed ⟨#[37, 119, 58, 32, 116, 104, 101, 32, 99, 101, 114, 116, 105, 102, 105, 99, 97, 116, 101, 32, 116, 97, 98, 108, 101, 32, 115, 116, 97, 114, 116, 115, 32, 97, 116, 32, 98, 121, 116, 101, 32, 37, 100, 44, 32, 105, 110, 115, 105, 100, 101, 32, 116, 104, 101, 32, 104, 101, 97, 100, 101, 114, 115, 44, 32, 119, 104, 105, 99, 104, 32, 101, 110, 100, 32, 97, 116, 32, 98, 121, 116, 101, 32, 37, 100]⟩ 3).run Ybaf.prog w = .ok [(0, 119, false), (1, 100, false), (2, 100, false)] w := by kernel_rfl
theorem Ybaf.fmtA0 (w : World) : (FmtDoors.printed ⟨#[37, 119, 58, 32, 116, 104, 101, 32, 99, 101, 114, 116, 105, 102, 105, 99, 97, 116, 101, 32, 116, 97, 98, 108, 101, 32, 115, 116, 97, 114, 116, 115, 32, 97, 116, 32, 98, 121, 116, 101, 32, 37, 100, 44, 32, 105, 110, 115, 105, 100, 101, 32, 116, 104, 101, 32, 104, 101, 97, 100, 101, 114, 115, 44, 32, 119, 104, 105, 99, 104, 32, 101, 110, 100, 32, 97, 116, 32, 98, 121, 116, 101, 32, 37, 100]⟩ 0).run Ybaf.prog w = .ok [] w := by kernel_rfl
theorem Ybaf.fmtA' : FmtStop.printed? ⟨#[37, 119, 58, 32, 116, 104, 101, 32, 99, 101, 114, 116, 105, 102, 105, 99, 97, 116, 101, 32, 116, 97, 98, 108, 101, 32, 115, 116, 97, 114, 116, 115, 32, 97, 116, 32, 98, 121, 116, 101, 32, 37, 100, 44, 32, 105, 110, 115, 105, 100, 101, 32, 116, 104, 101, 32, 104, 101, 97, 100, 101, 114, 115, 44, 32, 119, 104, 105, 99, 104, 32, 101, 110, 100, 32, 97, 116, 32, 98, 121, 116, 101, 32, 37, 100]⟩ 3 = some [(0, 119, false), (1, 100, false), (2, 100, false)] := by kernel_rfl
theorem Ybaf.fmtB (w : World) : (FmtDoors.printed ⟨#[37, 119, 58, 32, 116, 104, 101, 32, 102, 105, 108, 101, 32, 101, 110, 100, 115, 32, 97, 116, 32, 98, 121, 116, 101, 32, 37, 100, 44, 32, 98, 101, 102, 111, 114, 101, 32, 116, 104, 101, 32, 101, 110, 100, 32, 111, 102, 32, 116, 104, 101, 32, 37, 115, 32, 40, 98, 121, 116, 101, 115, 32, 37, 100, 32, 116, 111, 32, 37, 100, 41]⟩ 5).run Ybaf.prog w = .ok [(0, 119, false), (1, 100, false), (2, 115, false), (3, 100, false), (4, 100, false)] w := by kernel_rfl
theorem Ybaf.fmtB' : FmtStop.printed? ⟨#[37, 119, 58, 32, 116, 104, 101, 32, 102, 105, 108, 101, 32, 101, 110, 100, 115, 32, 97, 116, 32, 98, 121, 116, 101, 32, 37, 100, 44, 32, 98, 101, 102, 111, 114, 101, 32, 116, 104, 101, 32, 101, 110, 100, 32, 111, 102, 32, 116, 104, 101, 32, 37, 115, 32, 40, 98, 121, 116, 101, 115, 32, 37, 100, 32, 116, 111, 32, 37, 100, 41]⟩ 5 = some [(0, 119, false), (1, 100, false), (2, 115, false), (3, 100, false), (4, 100, false)] := by kernel_rfl

def Ybaf.shape2 : List UInt8 := [5, 5, 0, 0, 0, 0, 0, 0, 0, 105, 110, 116, 54, 52]
theorem Ybaf.op2_100w (name : String) (x : Int) (w : World) : (FmtStop.operand name true 100 false (.iface 2 (.int .i64 x))).run Ybaf.prog w = .ok (Ybaf.shape2, Go.Extern.Stop.digits 8 (x % 2 ^ 64).toNat) w := by kernel_rfl
def Ybaf.shape9 : List UInt8 := [12, 6, 0, 0, 0, 0, 0, 0, 0, 115, 116, 114, 105, 110, 103]
theorem Ybaf.op9_115w (name : String) (s : ByteArray) (w : World) : (FmtStop.operand name true 115 false (.iface 9 (.string s))).run Ybaf.prog w = .ok (Ybaf.shape9, FmtStop.pack s.data.toList) w := by kernel_rfl
theorem Ybaf.ptr102 (w : World) : (FmtStop.ptrTo "errors.errorString").run Ybaf.prog w = .ok 102 w := by kernel_rfl
theorem Ybaf.elem102 (w : World) : (elemOf 102).run Ybaf.prog w = .ok 104 w := by kernel_rfl
theorem Ybaf.isError102' (w : World) : (FmtDoors.textMethod 102 "Error").run Ybaf.prog w = .ok true w := by kernel_rfl
/-- the sentinels' type's name, off the given rows -/
def Ybaf.nm : String := match (Rows.laid_example_com_coffhand_coffhand_pe_ErrUnsigned : DataW Unit) with
  | .iface s _ => s
  | _ => ""
def Ybaf.plain102 : List UInt8 := 14 :: FmtStop.pack [42, 101, 114, 114, 111, 114, 115, 46, 101, 114, 114, 111, 114, 83, 116, 114, 105, 110, 103]
theorem Ybaf.opPlain102_119w (name : String) (a : Addr) (s : ByteArray) (w : World) (hc : w.cell? a = some (.string s)) :
    (FmtStop.operand name true 119 false (.iface 102 (.pointer (some a)))).run Ybaf.prog w = .ok (Ybaf.plain102, s.data.toList) w := by
  have h1 : (typeStr 102).run Ybaf.prog w = .ok Ybaf.nm w := by kernel_rfl
  have h0 : Ybaf.nm.toUTF8.data.toList = [42, 101, 114, 114, 111, 114, 115, 46, 101, 114, 114, 111, 114, 83, 116, 114, 105, 110, 103] := by kernel_rfl
  have d2 : Ybaf.t102.desc = .pointer 104 := rfl
  have d3 : Ybaf.t104.desc = .named "errors.errorString" 103 := rfl
  simp [FmtStop.operand, h1, d2, d3, run_load, hc, Ybaf.plain102]
  exact congrArg FmtStop.pack h0
theorem Ybaf.ptr86 (w : World) : (FmtStop.ptrTo "fmt.wrapError").run Ybaf.prog w = .ok 86 w := by kernel_rfl
theorem Ybaf.elem86 (w : World) : (elemOf 86).run Ybaf.prog w = .ok 148 w := by kernel_rfl
theorem Ybaf.isError86' (w : World) : (FmtDoors.textMethod 86 "Error").run Ybaf.prog w = .ok true w := by kernel_rfl
end Go.Proofs.YbulkcthqFmt
