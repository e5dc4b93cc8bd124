import Derived.Test.YbulkbdywFmtRows
import Derived.Stop.CallBack
import Derived.Stop.IfaceNil
import GoSem.ClaimData
/-! Closed facts of this dump, for walks that come to fmt.errorf, the stop (after the guide's SentryFmt). -/
namespace Go.Proofs.YbulkbdywFmt
open Go.Extern.Stop Go.Stop Go.Extern

theorem Ybaf.call13 (args : Array Value) (w : World) : (callFunc 13 args).run Ybaf.prog w = ((FmtStop.errorf #[9, 50] #[31] args).run Ybaf.prog w).andThen fun v w' => .ok (.value v) w' :=
  run_callFunc_extern Ybaf.func13 (by kernel_rfl) (by kernel_rfl) (by kernel_rfl) (by kernel_rfl) args w
theorem Ybaf.guard (name : String) (w : World) : (FmtStop.guard name).run Ybaf.prog w = .ok () w := by kernel_rfl

-- the formats: not one JSON object: %w · key %.40q given twice · %s: %w · missing key %q · unknown key %.40q
theorem Ybaf.fmtO (w : World) : (FmtDoors.printed ⟨#[110, 111, 116, 32, 111, 110, 101, 32, 74, 83, 79, 78, 32, 111, 98, 106, 101, 99, 116, 58, 32, 37, 119]⟩ 1).run Ybaf.prog w = .ok [(0, 119, false)] w := by kernel_rfl
theorem Ybaf.fmtK (w : World) : (FmtDoors.printed ⟨#[107, 101, 121, 32, 37, 46, 52, 48, 113, 32, 103, 105, 118, 101, 110, 32, 116, 119, 105, 99, 101]⟩ 1).run Ybaf.prog w = .ok [(0, 113, false)] w := by kernel_rfl
theorem Ybaf.fmtW (w : World) : (FmtDoors.printed ⟨#[37, 115, 58, 32, 37, 119]⟩ 2).run Ybaf.prog w = .ok [(0, 115, false), (1, 119, false)] w := by kernel_rfl
theorem Ybaf.fmtM (w : World) : (FmtDoors.printed ⟨#[109, 105, 115, 115, 105, 110, 103, 32, 107, 101, 121, 32, 37, 113]⟩ 1).run Ybaf.prog w = .ok [(0, 113, false)] w := by kernel_rfl
theorem Ybaf.fmtU (w : World) : (FmtDoors.printed ⟨#[117, 110, 107, 110, 111, 119, 110, 32, 107, 101, 121, 32, 37, 46, 52, 48, 113]⟩ 1).run Ybaf.prog w = .ok [(0, 113, false)] w := by kernel_rfl

def Ybaf.shape9 : List UInt8 := [12, 6, 0, 0, 0, 0, 0, 0, 0, 115, 116, 114, 105, 110, 103]
theorem Ybaf.op9_113w (name : String) (x : ByteArray) (w : World) : (FmtStop.operand name true 113 false (.iface 9 (.string x))).run Ybaf.prog w = .ok (Ybaf.shape9, FmtStop.pack x.data.toList) w := by kernel_rfl
theorem Ybaf.op9_115w (name : String) (x : ByteArray) (w : World) : (FmtStop.operand name true 115 false (.iface 9 (.string x))).run Ybaf.prog w = .ok (Ybaf.shape9, FmtStop.pack x.data.toList) w := by kernel_rfl

theorem Ybaf.ptr41 (w : World) : (FmtStop.ptrTo "errors.errorString").run Ybaf.prog w = .ok 41 w := by kernel_rfl
theorem Ybaf.elem41 (w : World) : (elemOf 41).run Ybaf.prog w = .ok 43 w := by kernel_rfl
theorem Ybaf.isError41 (w : World) : (FmtDoors.textMethod 41 "Error").run Ybaf.prog w = .ok true w := by kernel_rfl
theorem Ybaf.ptr51 (w : World) : (FmtStop.ptrTo "fmt.wrapError").run Ybaf.prog w = .ok 51 w := by kernel_rfl
theorem Ybaf.elem51 (w : World) : (elemOf 51).run Ybaf.prog w = .ok 88 w := by kernel_rfl
/-- An error of errors.New's make as an operand of %w: it reads as its type's name and its text, out of memory. -/
theorem Ybaf.opPlain41_119w : ∃ rd : List UInt8, ∀ (name : String) (a : Addr) (s : ByteArray) (w : World), w.cell? a = some (.string s) →
    (FmtStop.operand name true 119 false (.iface 41 (.pointer (some a)))).run Ybaf.prog w = .ok (rd, s.data.toList) w := by
  refine ⟨14 :: FmtStop.pack ((Ybaf.prog.typeName? 3 41).getD "x").toUTF8.data.toList, fun name a s w hc => ?_⟩
  have h1 : (typeStr 41).run Ybaf.prog w = .ok ((Ybaf.prog.typeName? 3 41).getD "x") w := by kernel_rfl
  have d2 : Ybaf.t41.desc = .pointer 43 := rfl
  have d3 : Ybaf.t43.desc = .named "errors.errorString" 42 := rfl
  simp [FmtStop.operand, h1, d2, d3, run_load, hc]
end Go.Proofs.YbulkbdywFmt
