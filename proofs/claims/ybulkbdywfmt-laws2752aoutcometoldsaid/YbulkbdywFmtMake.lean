import Derived.Test.YbulkbdywFmtClass
/-! What fmt.Errorf makes in this program, whatever text F gives. -/
namespace Go.Proofs.YbulkbdywFmt
open Go.RowKit Go.Extern.Stop Go.Stop Go.Extern

attribute [local go_sem] Ybaf.call13 Ybaf.guard Ybaf.fmtO Ybaf.fmtK Ybaf.fmtW Ybaf.fmtM Ybaf.fmtU Ybaf.op9_113w Ybaf.op9_115w Ybaf.ptr41 Ybaf.elem41 Ybaf.isError41 Ybaf.ptr51 Ybaf.elem51

set_option maxHeartbeats 1000000 in
theorem notOne_any (F : Interp) (a : Addr) (s : ByteArray) (w : World) (hF : F.answers w.tape) (hs : (w.alloc (.cells #[.iface 41 (.pointer (some a))] 20)).cell? a = some (.string s)) :
    Calls Ybaf.prog 8 #[.iface 41 (.pointer (some a))] w fun e w' => ∃ txt, e = .returned (.iface 51 (.pointer (some ⟨w.heap.size + 1, 0, none⟩))) ∧ w' = ((w.alloc (.cells #[.iface 41 (.pointer (some a))] 20)).alloc (.cells #[.string txt, .iface 41 (.pointer (some a))] 88)).drew := by
  have hF' := answers_open hF
  obtain ⟨rd, hrd⟩ := Ybaf.opPlain41_119w
  have hop := hrd "fmt.errorf" a s _ hs
  clear hrd hs
  go_enter Ybaf.func8, Ybaf.ntmps8
  go_wp2
  go_ret
  exact ⟨_, rfl, rfl⟩

/-- fmt.Errorf of one string under %q: the three formats. -/
theorem errorfK (F : Interp) (b : Nat) (s : ByteArray) (w : World) (hF : F.answers w.tape) (hs : w.cell? ⟨b, 0, none⟩ = some (.iface 9 (.string s))) :
    Calls Ybaf.prog 9 #[.string ⟨#[107, 101, 121, 32, 37, 46, 52, 48, 113, 32, 103, 105, 118, 101, 110, 32, 116, 119, 105, 99, 101]⟩, .slice (some ⟨b, 0, none⟩) 1 1] w fun e w' => ∃ txt, e = .returned (.iface 41 (.pointer (some ⟨w.heap.size, 0, none⟩))) ∧ w' = (w.alloc (.cells #[.string txt] 43)).drew := by
  have hF' := answers_open hF
  go_enter Ybaf.func9, Ybaf.ntmps9
  go_wp2
  go_ret
  exact ⟨_, rfl, rfl⟩
theorem errorfM (F : Interp) (b : Nat) (s : ByteArray) (w : World) (hF : F.answers w.tape) (hs : w.cell? ⟨b, 0, none⟩ = some (.iface 9 (.string s))) :
    Calls Ybaf.prog 9 #[.string ⟨#[109, 105, 115, 115, 105, 110, 103, 32, 107, 101, 121, 32, 37, 113]⟩, .slice (some ⟨b, 0, none⟩) 1 1] w fun e w' => ∃ txt, e = .returned (.iface 41 (.pointer (some ⟨w.heap.size, 0, none⟩))) ∧ w' = (w.alloc (.cells #[.string txt] 43)).drew := by
  have hF' := answers_open hF
  go_enter Ybaf.func9, Ybaf.ntmps9
  go_wp2
  go_ret
  exact ⟨_, rfl, rfl⟩
theorem errorfU (F : Interp) (b : Nat) (s : ByteArray) (w : World) (hF : F.answers w.tape) (hs : w.cell? ⟨b, 0, none⟩ = some (.iface 9 (.string s))) :
    Calls Ybaf.prog 9 #[.string ⟨#[117, 110, 107, 110, 111, 119, 110, 32, 107, 101, 121, 32, 37, 46, 52, 48, 113]⟩, .slice (some ⟨b, 0, none⟩) 1 1] w fun e w' => ∃ txt, e = .returned (.iface 41 (.pointer (some ⟨w.heap.size, 0, none⟩))) ∧ w' = (w.alloc (.cells #[.string txt] 43)).drew := by
  have hF' := answers_open hF
  go_enter Ybaf.func9, Ybaf.ntmps9
  go_wp2
  go_ret
  exact ⟨_, rfl, rfl⟩
theorem errorfW (F : Interp) (b : Nat) (s t : ByteArray) (a : Addr) (w : World) (hF : F.answers w.tape) (hs : w.cell? ⟨b, 0, none⟩ = some (.iface 9 (.string s))) (h1 : w.cell? ⟨b, 1, none⟩ = some (.iface 41 (.pointer (some a)))) (ht : w.cell? a = some (.string t)) :
    Calls Ybaf.prog 9 #[.string ⟨#[37, 115, 58, 32, 37, 119]⟩, .slice (some ⟨b, 0, none⟩) 2 2] w fun e w' => ∃ txt, e = .returned (.iface 51 (.pointer (some ⟨w.heap.size, 0, none⟩))) ∧ w' = (w.alloc (.cells #[.string txt, .iface 41 (.pointer (some a))] 88)).drew := by
  have hF' := answers_open hF
  obtain ⟨rd, hrd⟩ := Ybaf.opPlain41_119w
  have hop := hrd "fmt.errorf" a t _ ht
  clear hrd ht
  go_enter Ybaf.func9, Ybaf.ntmps9
  go_wp2
  go_ret
  exact ⟨_, rfl, rfl⟩
end Go.Proofs.YbulkbdywFmt
