/-
  The four maps' keys.
-/
import Derived.Test.YbulkbdskDoorMaps
import Derived.Test.YbulkbdskDoorChecked
namespace Go.Proofs.YbulkbdskDoor
open Go Go.RowKit

/-- A peer's id. -/
def idA (i : Nat) : Array Value := #[.int .u8 ((i : Int) + 1), .int .u8 0, .int .u8 0, .int .u8 0, .int .u8 0, .int .u8 0, .int .u8 0, .int .u8 0, .int .u8 0, .int .u8 0, .int .u8 0, .int .u8 0, .int .u8 0, .int .u8 0, .int .u8 0, .int .u8 0, .int .u8 0, .int .u8 0, .int .u8 0, .int .u8 0]
def idV (i : Nat) : Value := .agg (idA i)
/-- An endpoint. -/
def epV (p : Nat) : Value := .agg #[.int .u64 0, .int .u64 0, .pointer none, .int .u16 (p : Int)]
/-- The one source. -/
def srcV (_ : Nat) : Value := .agg #[.int .u8 0, .int .u8 0, .int .u8 0, .int .u8 0, .int .u8 0, .int .u8 0, .int .u8 0, .int .u8 0, .int .u8 0, .int .u8 0, .int .u8 0, .int .u8 0, .int .u8 0, .int .u8 0, .int .u8 0, .int .u8 0]
/-- The one AS. -/
def asV (_ : Nat) : Value := .int .u32 0

theorem eq50 (w : World) (i j : Nat) (hi : i < 4) (hj : j < 4) : (Op.equal 50 (idV i) (idV j)).run Ybad.prog w = .ok (decide (i = j)) w := by
  obtain rfl | rfl | rfl | rfl : i = 0 ∨ i = 1 ∨ i = 2 ∨ i = 3 := by omega
  all_goals obtain rfl | rfl | rfl | rfl : j = 0 ∨ j = 1 ∨ j = 2 ∨ j = 3 := by omega
  all_goals kernel_rfl
theorem eq48 (w : World) (i j : Nat) (hi : i < 3) (hj : j < 3) : (Op.equal 48 (epV i) (epV j)).run Ybad.prog w = .ok (decide (i = j)) w := by
  obtain rfl | rfl | rfl : i = 0 ∨ i = 1 ∨ i = 2 := by omega
  all_goals obtain rfl | rfl | rfl : j = 0 ∨ j = 1 ∨ j = 2 := by omega
  all_goals kernel_rfl

theorem idV_inj (i j : Nat) (h : idV i = idV j) : i = j := by
  simp [idV, idA] at h
  omega
theorem epV_inj (i j : Nat) (h : epV i = epV j) : i = j := by
  simp [epV] at h
  omega

theorem ids_ok : KeyOK Ybad.prog 50 idV 4 where
  inj i j _ _ h := idV_inj i j h
  check w em i hi := by
    obtain rfl | rfl | rfl | rfl : i = 0 ∨ i = 1 ∨ i = 2 ∨ i = 3 := by omega
    all_goals kernel_rfl
  stays w i hi := by
    obtain rfl | rfl | rfl | rfl : i = 0 ∨ i = 1 ∨ i = 2 ∨ i = 3 := by omega
    all_goals kernel_rfl
  find w i hi es hes := find_of Ybad.underlying50 (fun _ _ => rfl) eq50 (fun i j _ _ h => idV_inj i j h) w i hi es hes

theorem eps_ok : KeyOK Ybad.prog 48 epV 3 where
  inj i j _ _ h := epV_inj i j h
  check w em i hi := by
    obtain rfl | rfl | rfl : i = 0 ∨ i = 1 ∨ i = 2 := by omega
    all_goals kernel_rfl
  stays w i hi := by
    obtain rfl | rfl | rfl : i = 0 ∨ i = 1 ∨ i = 2 := by omega
    all_goals kernel_rfl
  find w i hi es hes := find_of Ybad.underlying48 (fun _ _ => rfl) eq48 (fun i j _ _ h => epV_inj i j h) w i hi es hes

theorem src_ok : KeyOK Ybad.prog 104 srcV 1 where
  inj i j hi hj _ := by omega
  check w em i hi := by kernel_rfl
  stays w i hi := by kernel_rfl
  find w i hi es hes := find_of Ybad.underlying104 (fun _ _ => rfl) (fun w i j hi hj => by
    obtain rfl : i = 0 := by omega
    obtain rfl : j = 0 := by omega
    kernel_rfl) (fun i j hi hj _ => by omega) w i hi es hes

theorem as_ok : KeyOK Ybad.prog 80 asV 1 where
  inj i j hi hj _ := by omega
  check w em i hi := by kernel_rfl
  stays w i hi := by kernel_rfl
  find w i hi es hes := by
    cases es with
    | nil => exact .inl ⟨by kernel_rfl, by simp⟩
    | cons e es =>
      obtain ⟨j, _, hk⟩ := hes e (by simp)
      refine .inr ⟨0, e, ?_, rfl, hk⟩
      simp [Instr.findKey, run_underlying Ybad.underlying80, Instr.findNow, Instr.sameNow, hk, asV]

theorem zero3 (w : World) : (zeroValue 3).run Ybad.prog w = .ok (.int .i64 0) w := by kernel_rfl
theorem zero21 (w : World) : (zeroValue 21).run Ybad.prog w = .ok (.int .i32 0) w := by kernel_rfl

end Go.Proofs.YbulkbdskDoor
