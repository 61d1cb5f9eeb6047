import Derived.Test.YbulkagkqFmtProg
import Derived.Stop.CallBack
import Derived.Stop.IfaceNil
import GoSem.ClaimData
import Derived.KernelRfl
namespace Go.Proofs.YbulkagkqFmt
open Go.Extern.Stop Go.Stop Go.Extern

/-! Closed facts for a walk over fmt's stopped front at this dump, after the make of the guide's SentryFmt.lean. -/
@[go_sem] theorem Ybaf.call35 (args : Array Value) (w : World) : (callFunc 35 args).run Ybaf.prog w = ((FmtStop.errorf #[9, 96] #[51] args).run Ybaf.prog w).andThen fun v w' => .ok (.value v) w' :=
  run_callFunc_extern Ybaf.func35 (by kernel_rfl) (by kernel_rfl) (by kernel_rfl) (by kernel_rfl) args w
@[go_sem] theorem Ybaf.guard (name : String) (w : World) : (FmtStop.guard name).run Ybaf.prog w = .ok () w := by kernel_rfl
@[go_sem] theorem Ybaf.fmt0 : FmtStop.printed? ⟨#[37, 119, 58, 32, 104, 101, 105, 103, 104, 116, 32, 48, 59, 32, 104, 101, 105, 103, 104, 116, 115, 32, 115, 116, 97, 114, 116, 32, 97, 116, 32, 49]⟩ 1 = some [(0, 119, false)] := by kernel_rfl
@[go_sem] theorem Ybaf.fmt0r (w : World) : (FmtDoors.printed ⟨#[37, 119, 58, 32, 104, 101, 105, 103, 104, 116, 32, 48, 59, 32, 104, 101, 105, 103, 104, 116, 115, 32, 115, 116, 97, 114, 116, 32, 97, 116, 32, 49]⟩ 1).run Ybaf.prog w = .ok [(0, 119, false)] w := by kernel_rfl
@[go_sem] theorem Ybaf.fmt1 : FmtStop.printed? ⟨#[37, 119, 58, 32, 104, 101, 105, 103, 104, 116, 32, 37, 100, 32, 97, 102, 116, 101, 114, 32, 104, 101, 105, 103, 104, 116, 32, 37, 100]⟩ 3 = some [(0, 119, false), (1, 100, false), (2, 100, false)] := by kernel_rfl
@[go_sem] theorem Ybaf.fmt1r (w : World) : (FmtDoors.printed ⟨#[37, 119, 58, 32, 104, 101, 105, 103, 104, 116, 32, 37, 100, 32, 97, 102, 116, 101, 114, 32, 104, 101, 105, 103, 104, 116, 32, 37, 100]⟩ 3).run Ybaf.prog w = .ok [(0, 119, false), (1, 100, false), (2, 100, false)] w := by kernel_rfl

theorem Ybaf.name22 : Ybaf.prog.typeName? 3 22 = some "uint64" := by kernel_rfl
def Ybaf.shape22 : List UInt8 := [9, 6, 0, 0, 0, 0, 0, 0, 0, 117, 105, 110, 116, 54, 52]
@[go_sem] theorem Ybaf.op22_100w (name : String) (x : Int) (w : World) : (FmtStop.operand name true 100 false (.iface 22 (.int .u64 x))).run Ybaf.prog w = .ok (Ybaf.shape22, Go.Extern.Stop.digits 8 (x % 2 ^ 64).toNat) w := by kernel_rfl

@[go_sem] theorem Ybaf.ptr104 (w : World) : (FmtStop.ptrTo "errors.errorString").run Ybaf.prog w = .ok 104 w := by kernel_rfl
@[go_sem] theorem Ybaf.elem104 (w : World) : (elemOf 104).run Ybaf.prog w = .ok 106 w := by kernel_rfl
@[go_sem] theorem Ybaf.isError104' (w : World) : (FmtDoors.textMethod 104 "Error").run Ybaf.prog w = .ok true w := by kernel_rfl
theorem Ybaf.name104 : Ybaf.prog.typeName? 3 104 = some "*errors.errorString" := by kernel_rfl
def Ybaf.plain104 : List UInt8 := 14 :: FmtStop.pack "*errors.errorString".toUTF8.data.toList
theorem Ybaf.opPlain104_119w (name : String) (a : Addr) (s : ByteArray) (w : World) (hc : w.cell? a = some (.string s)) :
    (FmtStop.operand name true 119 false (.iface 104 (.pointer (some a)))).run Ybaf.prog w = .ok (Ybaf.plain104, s.data.toList) w := by
  have h1 : (typeStr 104).run Ybaf.prog w = .ok "*errors.errorString" w := by kernel_rfl
  have d2 : Ybaf.t104.desc = .pointer 106 := rfl
  have d3 : Ybaf.t106.desc = .named "errors.errorString" 105 := rfl
  simp [FmtStop.operand, h1, d2, d3, run_load, hc, Ybaf.plain104]
@[go_sem] theorem Ybaf.ptr98 (w : World) : (FmtStop.ptrTo "fmt.wrapError").run Ybaf.prog w = .ok 98 w := by kernel_rfl
@[go_sem] theorem Ybaf.elem98 (w : World) : (elemOf 98).run Ybaf.prog w = .ok 156 w := by kernel_rfl
@[go_sem] theorem Ybaf.isError98' (w : World) : (FmtDoors.textMethod 98 "Error").run Ybaf.prog w = .ok true w := by kernel_rfl
end Go.Proofs.YbulkagkqFmt
