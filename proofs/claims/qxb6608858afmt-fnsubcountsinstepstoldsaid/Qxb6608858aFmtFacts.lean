/-
  The closed facts for the walk over fmt.Errorf's stop in this seat's dump: what the stop is, what the format parses to, what each operand reads as.
-/
import Derived.Test.Qxb6608858aFmtProg
import Derived.Stop.CallBack
import Derived.Stop.IfaceNil
import GoSem.ClaimData
namespace Go.Proofs.Qxb6608858aFmt.Facts
open Go.Extern.Stop Go.Stop Go.Extern

theorem call19 (args : Array Value) (w : World) : (callFunc 19 args).run Tryf.prog w = ((FmtStop.errorf #[9, 50] #[27] args).run Tryf.prog w).andThen fun v w' => .ok (.value v) w' :=
  run_callFunc_extern Tryf.func19 (by kernel_rfl) (by kernel_rfl) (by kernel_rfl) (by kernel_rfl) args w

theorem guard (name : String) (w : World) : (FmtStop.guard name).run Tryf.prog w = .ok () w := by kernel_rfl

theorem fmt0 : FmtStop.printed? ⟨#[37, 100, 32, 37, 115, 32, 108, 101, 115, 115, 32, 37, 100, 32, 105, 115, 32, 98, 101, 108, 111, 119, 32, 48, 58, 32, 37, 119]⟩ 4 = some [(0, 100, false), (1, 115, false), (2, 100, false), (3, 119, false)] := by kernel_rfl
theorem fmt0r (w : World) : (FmtDoors.printed ⟨#[37, 100, 32, 37, 115, 32, 108, 101, 115, 115, 32, 37, 100, 32, 105, 115, 32, 98, 101, 108, 111, 119, 32, 48, 58, 32, 37, 119]⟩ 4).run Tryf.prog w = .ok [(0, 100, false), (1, 115, false), (2, 100, false), (3, 119, false)] w := by kernel_rfl

def shape9 : List UInt8 := [12, 6, 0, 0, 0, 0, 0, 0, 0, 115, 116, 114, 105, 110, 103]
theorem op9_115w (name : String) (x : ByteArray) (w : World) : (FmtStop.operand name true 115 false (.iface 9 (.string x))).run Tryf.prog w = .ok (shape9, FmtStop.pack x.data.toList) w := by kernel_rfl

def shape22 : List UInt8 := [9, 6, 0, 0, 0, 0, 0, 0, 0, 117, 105, 110, 116, 54, 52]
theorem op22_100w (name : String) (x : Int) (w : World) : (FmtStop.operand name true 100 false (.iface 22 (.int .u64 x))).run Tryf.prog w = .ok (shape22, Go.Extern.Stop.digits 8 (x % 2 ^ 64).toNat) w := by kernel_rfl

theorem ptr52 (w : World) : (FmtStop.ptrTo "fmt.wrapError").run Tryf.prog w = .ok 52 w := by kernel_rfl
theorem elem52 (w : World) : (elemOf 52).run Tryf.prog w = .ok 80 w := by kernel_rfl
theorem isError54 (w : World) : (FmtDoors.textMethod 54 "Error").run Tryf.prog w = .ok true w := by kernel_rfl
theorem opPlain54_119w (name : String) (a : Addr) (s : ByteArray) (w : World) (hc : w.cell? a = some (.string s)) :
    (FmtStop.operand name true 119 false (.iface 54 (.pointer (some a)))).run Tryf.prog w = .ok (14 :: FmtStop.pack Tryf.t54.str.toUTF8.data.toList, s.data.toList) w := by
  have h1 : (typeStr 54).run Tryf.prog w = .ok Tryf.t54.str w := by kernel_rfl
  have d2 : Tryf.t54.desc = .pointer 56 := rfl
  have d3 : Tryf.t56.desc = .named "errors.errorString" 55 := rfl
  simp [FmtStop.operand, h1, d2, d3, run_load, hc]
end Go.Proofs.Qxb6608858aFmt.Facts
