import Derived.Test.YbulkwqmFmtChecked
import Derived.Stop.CallBack
import Derived.Stop.IfaceNil
import GoSem.ClaimData
namespace Go.Proofs
open Go.Extern.Stop Go.Stop Go.Extern

/-! THE CLOSED FACTS FOR THE WALK OVER fmt.errorf AT THIS DUMP (turned by hand after SentryFmt.lean). -/
@[go_sem] theorem Ybaf.call9 (args : Array Value) (w : World) : (callFunc 9 args).run Ybaf.prog w = ((FmtStop.errorf #[9, 88] #[78] args).run Ybaf.prog w).andThen fun v w' => .ok (.value v) w' :=
  run_callFunc_extern Ybaf.func9 (by kernel_rfl) (by kernel_rfl) (by kernel_rfl) (by kernel_rfl) args w
@[go_sem] theorem Ybaf.guard (name : String) (w : World) : (FmtStop.guard name).run Ybaf.prog w = .ok () w := by kernel_rfl
/-- "%w: it knocks as node %d, which node %d does not dial", its bytes. -/
abbrev knockFmt : List UInt8 := [37, 119, 58, 32, 105, 116, 32, 107, 110, 111, 99, 107, 115, 32, 97, 115, 32, 110, 111, 100, 101, 32, 37, 100, 44, 32, 119, 104, 105, 99, 104, 32, 110, 111, 100, 101, 32, 37, 100, 32, 100, 111, 101, 115, 32, 110, 111, 116, 32, 100, 105, 97, 108]
@[go_sem] theorem Ybaf.fmt0 : FmtStop.printed? ⟨#[37, 119, 58, 32, 105, 116, 32, 107, 110, 111, 99, 107, 115, 32, 97, 115, 32, 110, 111, 100, 101, 32, 37, 100, 44, 32, 119, 104, 105, 99, 104, 32, 110, 111, 100, 101, 32, 37, 100, 32, 100, 111, 101, 115, 32, 110, 111, 116, 32, 100, 105, 97, 108]⟩ 3 = some [(0, 119, false), (1, 100, false), (2, 100, false)] := by kernel_rfl
@[go_sem] theorem Ybaf.fmt0r (w : World) : (FmtDoors.printed ⟨#[37, 119, 58, 32, 105, 116, 32, 107, 110, 111, 99, 107, 115, 32, 97, 115, 32, 110, 111, 100, 101, 32, 37, 100, 44, 32, 119, 104, 105, 99, 104, 32, 110, 111, 100, 101, 32, 37, 100, 32, 100, 111, 101, 115, 32, 110, 111, 116, 32, 100, 105, 97, 108]⟩ 3).run Ybaf.prog w = .ok [(0, 119, false), (1, 100, false), (2, 100, false)] w := by kernel_rfl
theorem Ybaf.name3 : Ybaf.prog.typeName? 3 3 = some "int" := by kernel_rfl
def Ybaf.shape3 : List UInt8 := [5, 3, 0, 0, 0, 0, 0, 0, 0, 105, 110, 116]
@[go_sem] theorem Ybaf.op3_100w (name : String) (x : Int) (w : World) : (FmtStop.operand name true 100 false (.iface 3 (.int .i64 x))).run Ybaf.prog w = .ok (Ybaf.shape3, Go.Extern.Stop.digits 8 (x % 2 ^ 64).toNat) w := by kernel_rfl
@[go_sem] theorem Ybaf.ptr102 (w : World) : (FmtStop.ptrTo "errors.errorString").run Ybaf.prog w = .ok 102 w := by kernel_rfl
@[go_sem] theorem Ybaf.elem102 (w : World) : (elemOf 102).run Ybaf.prog w = .ok 104 w := by kernel_rfl
@[go_sem] theorem Ybaf.isError102' (w : World) : (FmtDoors.textMethod 102 "Error").run Ybaf.prog w = .ok true w := by kernel_rfl
theorem Ybaf.name102 : Ybaf.prog.typeName? 3 102 = some "*errors.errorString" := by kernel_rfl
def Ybaf.plain102 : List UInt8 := 14 :: FmtStop.pack "*errors.errorString".toUTF8.data.toList
theorem Ybaf.opPlain102_119w (name : String) (a : Addr) (s : ByteArray) (w : World) (hc : w.cell? a = some (.string s)) :
    (FmtStop.operand name true 119 false (.iface 102 (.pointer (some a)))).run Ybaf.prog w = .ok (Ybaf.plain102, s.data.toList) w := by
  have h1 : (typeStr 102).run Ybaf.prog w = .ok "*errors.errorString" w := by kernel_rfl
  have d2 : Ybaf.t102.desc = .pointer 104 := rfl
  have d3 : Ybaf.t104.desc = .named "errors.errorString" 103 := rfl
  simp [FmtStop.operand, h1, d2, d3, run_load, hc, Ybaf.plain102]
@[go_sem] theorem Ybaf.ptr90 (w : World) : (FmtStop.ptrTo "fmt.wrapError").run Ybaf.prog w = .ok 90 w := by kernel_rfl
@[go_sem] theorem Ybaf.elem90 (w : World) : (elemOf 90).run Ybaf.prog w = .ok 172 w := by kernel_rfl
@[go_sem] theorem Ybaf.isError90' (w : World) : (FmtDoors.textMethod 90 "Error").run Ybaf.prog w = .ok true w := by kernel_rfl
theorem Ybaf.name90 : Ybaf.prog.typeName? 3 90 = some "*fmt.wrapError" := by kernel_rfl
end Go.Proofs
