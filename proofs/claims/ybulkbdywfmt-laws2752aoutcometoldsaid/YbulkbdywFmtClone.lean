import Derived.Test.YbulkbdywFmtFacts
import Derived.Shelf.Pu.Clone
/-! strings.Clone, by the shelf's contract for internal/stringslite.Clone. -/
namespace Go.Proofs.YbulkbdywFmt
open Go.Shelf Go.RowKit

/-- The shelf's numbers, as this dump has them. -/
def rho : Ren := ⟨fun _ => 14, fun n => if n = 37 then 57 else if n = 47 then 58 else n, fun x => x⟩
theorem lays25 : LaysPu.n25 Ybaf.prog rho where
  mixed := by kernel_rfl
  f25 := by kernel_rfl
  t0 := by kernel_rfl
  a0 := fun _ => by kernel_rfl
  z0 := fun _ => by kernel_rfl
  v0 := fun _ => by kernel_rfl
  i0 := by kernel_rfl
  t3 := by kernel_rfl
  a3 := fun _ => by kernel_rfl
  z3 := fun _ => by kernel_rfl
  v3 := fun _ => by kernel_rfl
  i3 := by kernel_rfl
  t4 := by kernel_rfl
  a4 := fun _ => by kernel_rfl
  z4 := fun _ => by kernel_rfl
  v4 := fun _ => by kernel_rfl
  i4 := by kernel_rfl
  t5 := by kernel_rfl
  a5 := fun _ => by kernel_rfl
  z5 := fun _ => by kernel_rfl
  v5 := fun _ => by kernel_rfl
  i5 := by kernel_rfl
  t9 := by kernel_rfl
  a9 := fun _ => by kernel_rfl
  z9 := fun _ => by kernel_rfl
  v9 := fun _ => by kernel_rfl
  i9 := by kernel_rfl
  t37 := by kernel_rfl
  a37 := fun _ => by kernel_rfl
  z37 := fun _ => by kernel_rfl
  v37 := fun _ => by kernel_rfl
  i37 := by kernel_rfl
  t47 := by kernel_rfl
  a47 := fun _ => by kernel_rfl
  z47 := fun _ => by kernel_rfl
  v47 := fun _ => by kernel_rfl
  i47 := by kernel_rfl

/-- strings.Clone: the same bytes; of what was there nothing has turned. -/
theorem clone_any (s : ByteArray) (w : World) (hlim : s.size ≤ 281474976710656) :
    Calls Ybaf.prog 10 #[.string s] w fun e w' => e = .returned (.string s) ∧ Below w.heap.size w w' := by
  have H : Hid (Calls Ybaf.prog 14 #[.string s] w fun e w' => e = .returned (.string s) ∧ Below w.heap.size w w') := AnyPu.stringslite_Clone lays25 s w hlim
  go_enter Ybaf.func10, Ybaf.ntmps10
  go_wp2_with (go_at_call 14; refine H.out.mono ?_; rintro e w' ⟨rfl, hB⟩)
  go_ret
  exact ⟨rfl, hB⟩
end Go.Proofs.YbulkbdywFmt
