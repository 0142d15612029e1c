import Derived.Test.Qxb6614988aFmtRows
import Derived.Stop.CallBack
import Derived.Stop.IfaceNil
import GoSem.ClaimData
namespace Go.Proofs.Qxb6614988aFmt
open Go.Extern.Stop Go.Stop Go.Extern

theorem call16 (args : Array Value) (w : World) : (callFunc 16 args).run Tryf.prog w = ((FmtStop.sprintf #[9, 49] #[9] args).run Tryf.prog w).andThen fun v w' => .ok (.value v) w' :=
  run_callFunc_extern Tryf.func16 (by kernel_rfl) (by kernel_rfl) (by kernel_rfl) (by kernel_rfl) args w
theorem call17 (args : Array Value) (w : World) : (callFunc 17 args).run Tryf.prog w = ((FmtStop.errorf #[9, 49] #[27] args).run Tryf.prog w).andThen fun v w' => .ok (.value v) w' :=
  run_callFunc_extern Tryf.func17 (by kernel_rfl) (by kernel_rfl) (by kernel_rfl) (by kernel_rfl) args w
theorem guardF (name : String) (w : World) : (FmtStop.guard name).run Tryf.prog w = .ok () w := by kernel_rfl

-- "%s %.20q is not true or false", 2 operands
theorem fmt0 : FmtStop.printed? ⟨#[37, 115, 32, 37, 46, 50, 48, 113, 32, 105, 115, 32, 110, 111, 116, 32, 116, 114, 117, 101, 32, 111, 114, 32, 102, 97, 108, 115, 101]⟩ 2 = some [(0, 115, false), (1, 113, false)] := by kernel_rfl
theorem fmt0r (w : World) : (FmtDoors.printed ⟨#[37, 115, 32, 37, 46, 50, 48, 113, 32, 105, 115, 32, 110, 111, 116, 32, 116, 114, 117, 101, 32, 111, 114, 32, 102, 97, 108, 115, 101]⟩ 2).run Tryf.prog w = .ok [(0, 115, false), (1, 113, false)] w := by kernel_rfl
-- "the record has two %s headers", 1 operand
theorem fmt1 : FmtStop.printed? ⟨#[116, 104, 101, 32, 114, 101, 99, 111, 114, 100, 32, 104, 97, 115, 32, 116, 119, 111, 32, 37, 115, 32, 104, 101, 97, 100, 101, 114, 115]⟩ 1 = some [(0, 115, false)] := by kernel_rfl
theorem fmt1r (w : World) : (FmtDoors.printed ⟨#[116, 104, 101, 32, 114, 101, 99, 111, 114, 100, 32, 104, 97, 115, 32, 116, 119, 111, 32, 37, 115, 32, 104, 101, 97, 100, 101, 114, 115]⟩ 1).run Tryf.prog w = .ok [(0, 115, false)] w := by kernel_rfl
-- "%w: %s", 2 operands
theorem fmt2 : FmtStop.printed? ⟨#[37, 119, 58, 32, 37, 115]⟩ 2 = some [(0, 119, false), (1, 115, false)] := by kernel_rfl
theorem fmt2r (w : World) : (FmtDoors.printed ⟨#[37, 119, 58, 32, 37, 115]⟩ 2).run Tryf.prog w = .ok [(0, 119, false), (1, 115, false)] w := by kernel_rfl

theorem name9 : Tryf.prog.typeName? 3 9 = some "string" := by kernel_rfl
def shape9 : List UInt8 := [12, 6, 0, 0, 0, 0, 0, 0, 0, 115, 116, 114, 105, 110, 103]
theorem op9_115 (name : String) (x : ByteArray) (w : World) : (FmtStop.operand name false 115 false (.iface 9 (.string x))).run Tryf.prog w = .ok (shape9, FmtStop.pack x.data.toList) w := by kernel_rfl
theorem op9_113 (name : String) (x : ByteArray) (w : World) : (FmtStop.operand name false 113 false (.iface 9 (.string x))).run Tryf.prog w = .ok (shape9, FmtStop.pack x.data.toList) w := by kernel_rfl
theorem op9_115w (name : String) (x : ByteArray) (w : World) : (FmtStop.operand name true 115 false (.iface 9 (.string x))).run Tryf.prog w = .ok (shape9, FmtStop.pack x.data.toList) w := by kernel_rfl

-- the two error types
theorem ptr53 (w : World) : (FmtStop.ptrTo "errors.errorString").run Tryf.prog w = .ok 53 w := by kernel_rfl
theorem elem53 (w : World) : (elemOf 53).run Tryf.prog w = .ok 55 w := by kernel_rfl
theorem isError53 (w : World) : (FmtDoors.textMethod 53 "Error").run Tryf.prog w = .ok true w := by kernel_rfl
theorem name53 : Tryf.prog.typeName? 3 53 = some "*errors.errorString" := by kernel_rfl
def plain53 : List UInt8 := 14 :: FmtStop.pack "*errors.errorString".toUTF8.data.toList
theorem opPlain53_119w (name : String) (a : Addr) (s : ByteArray) (w : World) (hc : w.cell? a = some (.string s)) :
    (FmtStop.operand name true 119 false (.iface 53 (.pointer (some a)))).run Tryf.prog w = .ok (plain53, s.data.toList) w := by
  have h1 : (typeStr 53).run Tryf.prog w = .ok "*errors.errorString" w := by kernel_rfl
  have d2 : Tryf.t53.desc = .pointer 55 := rfl
  have d3 : Tryf.t55.desc = .named "errors.errorString" 54 := rfl
  simp [FmtStop.operand, h1, d2, d3, run_load, hc, plain53]
theorem ptr52 (w : World) : (FmtStop.ptrTo "fmt.wrapError").run Tryf.prog w = .ok 52 w := by kernel_rfl
theorem elem52 (w : World) : (elemOf 52).run Tryf.prog w = .ok 81 w := by kernel_rfl
theorem isError52 (w : World) : (FmtDoors.textMethod 52 "Error").run Tryf.prog w = .ok true w := by kernel_rfl
theorem name52 : Tryf.prog.typeName? 3 52 = some "*fmt.wrapError" := by kernel_rfl
end Go.Proofs.Qxb6614988aFmt
