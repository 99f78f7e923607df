import Derived.Test.YbulkbrtmFmtProg
import Derived.Stop.CallBack
import Derived.Stop.IfaceNil
import GoSem.ClaimData
/- The closed facts on fmt's stopped fronts, after the guide's worked examples. -/
namespace Go.Proofs
open Go.Extern.Stop Go.Stop Go.Extern

theorem Ybaf.call17 (args : Array Value) (w : World) : (callFunc 17 args).run Ybaf.prog w = ((FmtStop.sprintf #[9, 98] #[9] args).run Ybaf.prog w).andThen fun v w' => .ok (.value v) w' :=
  run_callFunc_extern Ybaf.func17 (by kernel_rfl) (by kernel_rfl) (by kernel_rfl) (by kernel_rfl) args w
theorem Ybaf.call32 (args : Array Value) (w : World) : (callFunc 32 args).run Ybaf.prog w = (FmtCalls.errorf #[9, 98] #[35] args).run Ybaf.prog w :=
  run_callFunc_next Ybaf.func32 (by kernel_rfl) (by kernel_rfl) (by kernel_rfl) args w
theorem Ybaf.guard (name : String) (w : World) : (FmtStop.guard name).run Ybaf.prog w = .ok () w := by kernel_rfl

theorem Ybaf.fmtX : FmtStop.printed? ⟨#[120, 37, 48, 49, 54, 120]⟩ 1 = some [(0, 120, false)] := by kernel_rfl
theorem Ybaf.fmtXr (w : World) : (FmtDoors.printed ⟨#[120, 37, 48, 49, 54, 120]⟩ 1).run Ybaf.prog w = .ok [(0, 120, false)] w := by kernel_rfl
theorem Ybaf.fmtH : FmtStop.printed? ⟨#[37, 35, 120]⟩ 1 = some [(0, 120, true)] := by kernel_rfl
theorem Ybaf.fmtHr (w : World) : (FmtDoors.printed ⟨#[37, 35, 120]⟩ 1).run Ybaf.prog w = .ok [(0, 120, true)] w := by kernel_rfl

def Ybaf.shape26 : List UInt8 := [9, 6, 0, 0, 0, 0, 0, 0, 0, 117, 105, 110, 116, 54, 52]
theorem Ybaf.op26_120 (name : String) (x : Int) (w : World) : (FmtStop.operand name false 120 false (.iface 26 (.int .u64 x))).run Ybaf.prog w = .ok (Ybaf.shape26, Go.Extern.Stop.digits 8 (x % 2 ^ 64).toNat) w := by kernel_rfl
theorem Ybaf.op26_120s (name : String) (x : Int) (w : World) : (FmtStop.operand name false 120 true (.iface 26 (.int .u64 x))).run Ybaf.prog w = .ok (Ybaf.shape26, Go.Extern.Stop.digits 8 (x % 2 ^ 64).toNat) w := by kernel_rfl
def Ybaf.shape9 : List UInt8 := [12, 6, 0, 0, 0, 0, 0, 0, 0, 115, 116, 114, 105, 110, 103]
theorem Ybaf.act9_115w (name : String) (x : Value) (w : World) : (FmtCalls.act name true 115 false (.iface 9 x)).run Ybaf.prog w = .ok (.closed true) w := by kernel_rfl
theorem Ybaf.op9_115w (name : String) (x : ByteArray) (w : World) : (FmtStop.operand name true 115 false (.iface 9 (.string x))).run Ybaf.prog w = .ok (Ybaf.shape9, FmtStop.pack x.data.toList) w := by kernel_rfl
theorem Ybaf.act73_119w (name : String) (x : Value) (w : World) : (FmtCalls.act name true 119 false (.iface 73 x)).run Ybaf.prog w = .ok (.closed true) w := by kernel_rfl
theorem Ybaf.ptr73 (w : World) : (FmtStop.ptrTo "errors.errorString").run Ybaf.prog w = .ok 73 w := by kernel_rfl
theorem Ybaf.elem73 (w : World) : (elemOf 73).run Ybaf.prog w = .ok 75 w := by kernel_rfl
theorem Ybaf.isError73 (w : World) : (FmtDoors.textMethod 73 "Error").run Ybaf.prog w = .ok true w := by kernel_rfl
theorem Ybaf.str73 (w : World) : (typeStr 73).run Ybaf.prog w = .ok (String.singleton '*' ++ "errors.errorString") w := by kernel_rfl
theorem Ybaf.opPlain73_119w (name : String) (a : Addr) (s : ByteArray) (w : World) (hc : w.cell? a = some (.string s)) :
    ∃ sh : List UInt8, (FmtStop.operand name true 119 false (.iface 73 (.pointer (some a)))).run Ybaf.prog w = .ok (sh, s.data.toList) w := by
  have h1 := Ybaf.str73 w
  generalize String.singleton '*' ++ "errors.errorString" = n at h1
  have d2 : Ybaf.t73.desc = .pointer 75 := rfl
  have d3 : Ybaf.t75.desc = .named "errors.errorString" 74 := rfl
  refine ⟨14 :: FmtStop.pack n.toUTF8.data.toList, ?_⟩
  simp [FmtStop.operand, h1, d2, d3, run_load, hc]
theorem Ybaf.ptr99 (w : World) : (FmtStop.ptrTo "fmt.wrapError").run Ybaf.prog w = .ok 99 w := by kernel_rfl
theorem Ybaf.elem99 (w : World) : (elemOf 99).run Ybaf.prog w = .ok 158 w := by kernel_rfl
theorem Ybaf.isError99 (w : World) : (FmtDoors.textMethod 99 "Error").run Ybaf.prog w = .ok true w := by kernel_rfl
end Go.Proofs
