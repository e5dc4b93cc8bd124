/-
  time's Add and Equal at the times that the law makes.
-/
import Derived.Test.YbulkbdskDoorNet
namespace Go.Proofs.YbulkbdskDoor
open Go Go.RowKit

theorem bits_lo (s : Nat) (hs : s < 1024) : bits .and .u64 (s : Int) 1073741823 = s := by
  have h : ∀ s : Fin 1024, bits .and .u64 (s.val : Int) 1073741823 = s.val := by decide +kernel
  exact h ⟨s, hs⟩
theorem bits_hi (s : Nat) (hs : s < 1024) : bits .and .u64 (s : Int) 9223372036854775808 = 0 := by
  have h : ∀ s : Fin 1024, bits .and .u64 (s.val : Int) 9223372036854775808 = 0 := by decide +kernel
  exact h ⟨s, hs⟩
theorem bits_self (s : Nat) (hs : s < 1024) : bits .and .u64 (s : Int) (s : Int) = s := by
  have h : ∀ s : Fin 1024, bits .and .u64 (s.val : Int) (s.val : Int) = s.val := by decide +kernel
  exact h ⟨s, hs⟩
theorem bits_or (s : Nat) (hs : s < 1024) : bits .or .u64 0 (s : Int) = s := by
  have h : ∀ s : Fin 1024, bits .or .u64 0 (s.val : Int) = s.val := by decide +kernel
  exact h ⟨s, hs⟩

theorem size57 : (Ybad.prog.info? 57).map (·.size) = some 3 := by kernel_rfl

set_option maxHeartbeats 400000 in
set_option maxRecDepth 100000 in
theorem nsec_any (b s : Nat) (hs : s < 1024) (w : World) (h : w.cell? ⟨b, 0, none⟩ = some (.int .u64 (s : Int))) : Calls Ybad.prog 12 #[.pointer (some ⟨b, 0, none⟩)] w fun e w' => e = .returned (.int .i32 (s : Int)) ∧ w = w' := by
  have h1 := bits_lo s hs
  go_enter Ybad.func12, Ybad.ntmps12
  go_wp2
  go_ret
  exact ⟨rfl, rfl⟩

set_option maxHeartbeats 400000 in
set_option maxRecDepth 100000 in
theorem sec_any (b s : Nat) (hs : s < 1024) (w : World) (h : w.cell? ⟨b, 0, none⟩ = some (.int .u64 (s : Int))) (h1 : w.cell? ⟨b, 1, none⟩ = some (.int .i64 0)) : Calls Ybad.prog 24 #[.pointer (some ⟨b, 0, none⟩)] w fun e w' => e = .returned (.int .i64 0) ∧ w = w' := by
  have h2 := bits_hi s hs
  go_enter Ybad.func24, Ybad.ntmps24
  go_wp2
  go_ret
  exact ⟨rfl, rfl⟩

set_option maxHeartbeats 400000 in
set_option maxRecDepth 100000 in
theorem addSec_zero (b s : Nat) (hs : s < 1024) (w : World) (h : w.cell? ⟨b, 0, none⟩ = some (.int .u64 (s : Int))) (h1 : w.cell? ⟨b, 1, none⟩ = some (.int .i64 0)) (n1 : w.frozen? ⟨b, 1, none⟩ = false) : Calls Ybad.prog 13 #[.pointer (some ⟨b, 0, none⟩), .int .i64 0] w fun e w' => e = .returned (.tuple #[]) ∧ w = w' := by
  have h2 := bits_hi s hs
  have s1 := setCell_id h1
  go_enter Ybad.func13, Ybad.ntmps13
  go_wp2
  go_end0
  exact ⟨rfl, rfl⟩

set_option maxHeartbeats 400000 in
set_option maxRecDepth 100000 in
theorem time_add (s : Nat) (hs : s < 1024) (w : World) : Calls Ybad.prog 6 #[.agg #[.int .u64 0, .int .i64 0, .pointer none], .int .i64 (s : Int)] w fun e w' => e = .returned (.agg #[.int .u64 (s : Int), .int .i64 0, .pointer none]) ∧ Turn [] w w' := by
  have e1 : (s : Int) / 1000000000 = 0 := by omega
  have e2 : (s : Int) % 1000000000 = s := by omega
  have e3 := bits_or s hs
  have e4 := bits_hi s hs
  have e5 : bits .andNot .u64 0 1073741823 = 0 := by decide +kernel
  have X12 : Hid (∀ W b, W.cell? ⟨b, 0, none⟩ = some (.int .u64 0) → Calls Ybad.prog 12 #[.pointer (some ⟨b, 0, none⟩)] W fun e w' => e = .returned (.int .i32 0) ∧ W = w') := fun W b h => nsec_any b 0 (by omega) W h
  have X13 : Hid (∀ W b, W.cell? ⟨b, 0, none⟩ = some (.int .u64 (s : Int)) → W.cell? ⟨b, 1, none⟩ = some (.int .i64 0) → W.frozen? ⟨b, 1, none⟩ = false → Calls Ybad.prog 13 #[.pointer (some ⟨b, 0, none⟩), .int .i64 0] W fun e w' => e = .returned (.tuple #[]) ∧ W = w') := fun W b h1 h2 h3 => addSec_zero b s hs W h1 h2 h3
  go_enter Ybad.func6, Ybad.ntmps6
  go_upto_region 2 with fail
  refine wp_world ?_
  intro V hV
  have hr : V.rowIs w.heap.size 57 3 (fun k => (#[Value.int .u64 0, .int .i64 0, .pointer none][k]?).getD undef) := by rw [hV]; exact (row_new w _ 57).alloc _
  have hr2 : V.rowIs (w.heap.size + 1) 57 3 (fun k => (#[Value.int .u64 0, .int .i64 0, .pointer none][k]?).getD undef) := by
    rw [hV]
    have := row_new (w.alloc (.cells #[.int .u64 0, .int .i64 0, .pointer none] 57)) #[.int .u64 0, .int .i64 0, .pointer none] 57
    rw [World.size_alloc] at this
    exact this
  have hT : Turn [] w V := by rw [hV]; exact ((Turn.refl [] w).alloc _).alloc _
  have c0 := hr.cell (i := 0) (by omega)
  have c1 := hr.cell (i := 1) (by omega)
  have c2 := hr.cell (i := 2) (by omega)
  have n0 := hr.frozen 0
  have n1 := hr.frozen 1
  have d0 := hr2.cell (i := 0) (by omega)
  have d1 := hr2.cell (i := 1) (by omega)
  have d2 := hr2.cell (i := 2) (by omega)
  have m0 := hr2.frozen 0
  have m1 := hr2.frozen 1
  have m2 := hr2.frozen 2
  simp only [List.getElem?_toArray, List.getElem?_cons_zero, List.getElem?_cons_succ, Option.getD_some] at c0 c1 c2 d0 d1 d2
  have XV : Hid (Turn [] w V ∧ V.rowIs (w.heap.size + 1) 57 3 (fun k => (#[Value.int .u64 0, .int .i64 0, .pointer none][k]?).getD undef)) := ⟨hT, hr2⟩
  have X14 : Hid ((V.setCell ⟨w.heap.size, 0, none⟩ (.int .u64 (s : Int))).cell? ⟨w.heap.size, 0, none⟩ = some (.int .u64 (s : Int)) ∧ (V.setCell ⟨w.heap.size, 0, none⟩ (.int .u64 (s : Int))).cell? ⟨w.heap.size, 1, none⟩ = some (.int .i64 0) ∧ (V.setCell ⟨w.heap.size, 0, none⟩ (.int .u64 (s : Int))).frozen? ⟨w.heap.size, 1, none⟩ = false) := by
    have r := hr.set 0 (.int .u64 (s : Int))
    exact ⟨r.cell (i := 0) (by omega), r.cell (i := 1) (by omega), r.frozen 1⟩
  clear hV hr hr2 hT
  go_upto_region 3 with (go_at_call 12; refine (X12.out V _ (by exact c0)).mono ?_; rintro e w2 ⟨rfl, rfl⟩)
  obtain ⟨x, hx⟩ : ∃ x : Int, x = (s : Int) := ⟨_, rfl⟩
  have hx0 : 0 ≤ x := by omega
  have hx1 : x < 1024 := by omega
  simp only [← hx] at e1 e2 e3 e4 X13 X14 ⊢
  have HX : Hid (x = (s : Int)) := hx
  clear hx hs
  go_wp2_with (go_at_call 13; refine (X13.out _ _ (by exact X14.out.1) (by exact X14.out.2.1) (by exact X14.out.2.2)).mono ?_; rintro e w2 ⟨rfl, rfl⟩)
  have r := (((XV.out.2.setOther (a := ⟨w.heap.size, 0, none⟩) (by simp) (.int .u64 x)).set 0 (.int .u64 x)).set 1 (.int .i64 0)).set 2 (.pointer none)
  refine bodyPost_ret (res_cell rfl rfl (run_loadVar_mid _ _ _ _ [.int .u64 x, .int .i64 0, .pointer none] _ (row_range r 0 _ (by simp) (fun k hk => ?_)) Ybad.underlying57 rfl size57)) rfl ⟨by rw [HX.out], ?_⟩
  · match k, hk with
    | 0, _ | 1, _ | 2, _ => rfl
  · exact ((((XV.out.1.setCell (.inr (Nat.le_refl _)) _).setCell (.inr (Nat.le_succ _)) _).setCell (.inr (Nat.le_succ _)) _).setCell (.inr (Nat.le_succ _)) _)

set_option maxHeartbeats 400000 in
set_option maxRecDepth 100000 in
theorem time_equal (s : Nat) (hs : s < 1024) (w : World) : Calls Ybad.prog 8 #[.agg #[.int .u64 (s : Int), .int .i64 0, .pointer none], .agg #[.int .u64 (s : Int), .int .i64 0, .pointer none]] w fun e w' => e = .returned (.bool true) ∧ Turn [] w w' := by
  have e1 := bits_self s hs
  have e2 := bits_hi s hs
  have X12 : Hid (∀ W b, W.cell? ⟨b, 0, none⟩ = some (.int .u64 (s : Int)) → Calls Ybad.prog 12 #[.pointer (some ⟨b, 0, none⟩)] W fun e w' => e = .returned (.int .i32 (s : Int)) ∧ W = w') := fun W b h => nsec_any b s hs W h
  have X24 : Hid (∀ W b, W.cell? ⟨b, 0, none⟩ = some (.int .u64 (s : Int)) → W.cell? ⟨b, 1, none⟩ = some (.int .i64 0) → Calls Ybad.prog 24 #[.pointer (some ⟨b, 0, none⟩)] W fun e w' => e = .returned (.int .i64 0) ∧ W = w') := fun W b h1 h2 => sec_any b s hs W h1 h2
  clear hs
  go_enter Ybad.func8, Ybad.ntmps8
  go_upto_region 1 with fail
  refine wp_world ?_
  intro V hV
  have hr : V.rowIs w.heap.size 57 3 (fun k => (#[Value.int .u64 (s : Int), .int .i64 0, .pointer none][k]?).getD undef) := by rw [hV]; exact (row_new w _ 57).alloc _
  have hr2 : V.rowIs (w.heap.size + 1) 57 3 (fun k => (#[Value.int .u64 (s : Int), .int .i64 0, .pointer none][k]?).getD undef) := by
    rw [hV]
    have := row_new (w.alloc (.cells #[.int .u64 (s : Int), .int .i64 0, .pointer none] 57)) #[.int .u64 (s : Int), .int .i64 0, .pointer none] 57
    rw [World.size_alloc] at this
    exact this
  have hT : Turn [] w V := by rw [hV]; exact ((Turn.refl [] w).alloc _).alloc _
  have c0 := hr.cell (i := 0) (by omega)
  have c1 := hr.cell (i := 1) (by omega)
  have d0 := hr2.cell (i := 0) (by omega)
  have d1 := hr2.cell (i := 1) (by omega)
  simp only [List.getElem?_toArray, List.getElem?_cons_zero, List.getElem?_cons_succ, Option.getD_some] at c0 c1 d0 d1
  have XV : Hid (Turn [] w V) := hT
  clear hV hr hr2 hT
  go_wp2_with (first | (go_at_call 24; refine (X24.out V _ (by first | exact c0 | exact d0) (by first | exact c1 | exact d1)).mono ?_; rintro e w2 ⟨rfl, rfl⟩) | (go_at_call 12; refine (X12.out V _ (by first | exact c0 | exact d0)).mono ?_; rintro e w2 ⟨rfl, rfl⟩))
  go_ret
  exact ⟨by simp, XV.out⟩

end Go.Proofs.YbulkbdskDoor
