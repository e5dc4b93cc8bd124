/-
  net/netip's small functions at the zero address; sourceOf; Lookup at the zero address.
-/
import Derived.Test.YbulkbdskDoorKeys
import Derived.Test.YbulkbdskDoorRows2
import Derived.Deep.RegionWith
namespace Go.Proofs.YbulkbdskDoor
open Go Go.RowKit

/-- The zero address. -/
def adV : Value := .agg #[.int .u64 0, .int .u64 0, .pointer none]
/-- netip's z0 is the nil handle. -/
def Z0 (w : World) : Prop := w.cell? ⟨1, 0, none⟩ = some (.pointer none)

theorem Z0.turn {ks : List Nat} {w w' : World} (h : Z0 w) (ht : Turn ks w w') (hk : 1 ∉ ks) : Z0 w' := by
  have hlt := World.block_lt_of_cell? w ⟨1, 0, none⟩ h
  exact (World.cell?_of_block (a := ⟨1, 0, none⟩) (ht.block 1 hlt hk)).trans h

theorem rangeAt_new2 (w : World) (o : Obj) (c : Array Value) (t : TypeId) : ((w.alloc o).alloc (.cells c t)).rangeAt (w.heap.size + 1) 0 c.toList := by
  have := rangeAt_new (w.alloc o) c t
  rwa [World.size_alloc] at this

theorem size48 : (Ybad.prog.info? 48).map (·.size) = some 4 := by kernel_rfl
theorem size46 : (Ybad.prog.info? 46).map (·.size) = some 3 := by kernel_rfl
theorem size103 : (Ybad.prog.info? 103).map (·.size) = some 16 := by kernel_rfl
theorem size104 : (Ybad.prog.info? 104).map (·.size) = some 16 := by kernel_rfl

set_option maxHeartbeats 1000000 in
set_option maxRecDepth 100000 in
theorem addrPortFrom_any (p : Nat) (w : World) : Calls Ybad.prog 5 #[adV, .int .u16 (p : Int)] w fun e w' => e = .returned (epV p) ∧ Turn [] w w' := by
  unfold adV epV
  go_enter Ybad.func5, Ybad.ntmps5
  go_wp2
  exact bodyPost_ret (res_cell rfl rfl (run_loadVar_mid _ _ _ _ _ _ (rangeAt_new2 _ _ _ _) Ybad.underlying48 rfl size48)) rfl ⟨rfl, ((Turn.refl _ _).alloc _).alloc _⟩

set_option maxHeartbeats 1000000 in
set_option maxRecDepth 100000 in
theorem addr_any (p : Nat) (w : World) : Calls Ybad.prog 19 #[epV p] w fun e w' => e = .returned adV ∧ Turn [] w w' := by
  unfold adV epV
  go_enter Ybad.func19, Ybad.ntmps19
  go_wp2
  exact bodyPost_ret (res_cell rfl rfl (run_loadVar_mid _ _ _ _ _ _ (rangeAt_new2 _ _ _ _) Ybad.underlying46 rfl size46)) rfl ⟨rfl, ((Turn.refl _ _).alloc _).alloc _⟩

set_option maxHeartbeats 1000000 in
set_option maxRecDepth 100000 in
theorem port_any (p : Nat) (w : World) : Calls Ybad.prog 10 #[epV p] w fun e w' => e = .returned (.int .u16 (p : Int)) ∧ Turn [] w w' := by
  unfold epV
  go_enter Ybad.func10, Ybad.ntmps10
  go_wp2
  go_ret
  exact ⟨rfl, (Turn.refl _ _).alloc _⟩

theorem eqNil (W : World) : (Op.equalIn 9999 42 (.pointer none) (.pointer none)).run Ybad.prog W = .ok true W := by kernel_rfl

set_option maxHeartbeats 1000000 in
set_option maxRecDepth 100000 in
theorem isValid_any (w : World) (h : Z0 w) : Calls Ybad.prog 31 #[adV] w fun e w' => e = .returned (.bool false) ∧ Turn [] w w' := by
  have hb : 1 < w.heap.size := World.block_lt_of_cell? w ⟨1, 0, none⟩ h
  have hc : w.cell? ⟨1, 0, none⟩ = some (.pointer none) := h
  have he := eqNil
  unfold adV
  go_enter Ybad.func31, Ybad.ntmps31
  go_wp2
  go_ret
  exact ⟨rfl, (Turn.refl _ _).alloc _⟩

set_option maxHeartbeats 1000000 in
set_option maxRecDepth 100000 in
theorem is6_any (w : World) (h : Z0 w) : Calls Ybad.prog 38 #[adV] w fun e w' => e = .returned (.bool false) ∧ Turn [] w w' := by
  have hb : 1 < w.heap.size := World.block_lt_of_cell? w ⟨1, 0, none⟩ h
  have hc : w.cell? ⟨1, 0, none⟩ = some (.pointer none) := h
  have he := eqNil
  unfold adV
  go_enter Ybad.func38, Ybad.ntmps38
  go_wp2
  go_ret
  exact ⟨rfl, (Turn.refl _ _).alloc _⟩

set_option maxHeartbeats 1000000 in
set_option maxRecDepth 100000 in
theorem bePut_zero (b o c : Nat) (w : World) (h : ∀ k, k < 8 → w.cell? ⟨b, o + k, none⟩ = some (.int .u8 0) ∧ w.frozen? ⟨b, o + k, none⟩ = false) : Calls Ybad.prog 46 #[.slice (some ⟨b, o, none⟩) 8 c, .int .u64 0] w fun e w' => e = .returned (.tuple #[]) ∧ w = w' := by
  have d0 := h 0 (by omega)
  have d1 := h 1 (by omega)
  have d2 := h 2 (by omega)
  have d3 := h 3 (by omega)
  have d4 := h 4 (by omega)
  have d5 := h 5 (by omega)
  have d6 := h 6 (by omega)
  have d7 := h 7 (by omega)
  have s0 := setCell_id d0.1
  have s1 := setCell_id d1.1
  have s2 := setCell_id d2.1
  have s3 := setCell_id d3.1
  have s4 := setCell_id d4.1
  have s5 := setCell_id d5.1
  have s6 := setCell_id d6.1
  have s7 := setCell_id d7.1
  simp only [Nat.add_zero] at d0 s0
  clear h
  go_enter Ybad.func46, Ybad.ntmps46
  go_wp2
  go_end0
  exact ⟨rfl, rfl⟩

/-- Sixteen zero bytes. -/
def z16 : Array Value := #[.int .u8 0, .int .u8 0, .int .u8 0, .int .u8 0, .int .u8 0, .int .u8 0, .int .u8 0, .int .u8 0, .int .u8 0, .int .u8 0, .int .u8 0, .int .u8 0, .int .u8 0, .int .u8 0, .int .u8 0, .int .u8 0]

theorem z16_at (k : Nat) (hk : k < z16.toList.length) : z16.toList[k]? = some ((fun k => (z16[k]?).getD undef) (0 + k)) := by
  have hk' : k < z16.size := by simpa using hk
  simp [Array.getElem?_eq_getElem hk']

set_option maxHeartbeats 1000000 in
set_option maxRecDepth 100000 in
theorem as16_any (w : World) : Calls Ybad.prog 32 #[adV] w fun e w' => e = .returned (srcV 0) ∧ Turn [] w w' := by
  have X46 : Hid (∀ W o c, W.rowIs (w.heap.size + 1) 103 16 (fun k => (z16[k]?).getD undef) → o = 0 ∨ o = 8 → Calls Ybad.prog 46 #[.slice (some ⟨w.heap.size + 1, o, none⟩) 8 c, .int .u64 0] W fun e w' => e = .returned (.tuple #[]) ∧ W = w') := fun W o c hW ho =>
    bePut_zero (w.heap.size + 1) o c W (fun k hk => ⟨by
      rw [hW.cell (by omega)]
      have : ∀ m, m < 16 → (z16[m]?).getD undef = .int .u8 0 := fun m hm => by
        obtain rfl | rfl | rfl | rfl | rfl | rfl | rfl | rfl | rfl | rfl | rfl | rfl | rfl | rfl | rfl | rfl : m = 0 ∨ m = 1 ∨ m = 2 ∨ m = 3 ∨ m = 4 ∨ m = 5 ∨ m = 6 ∨ m = 7 ∨ m = 8 ∨ m = 9 ∨ m = 10 ∨ m = 11 ∨ m = 12 ∨ m = 13 ∨ m = 14 ∨ m = 15 := by omega
        all_goals rfl
      rw [this _ (by omega)], hW.frozen _⟩)
  unfold adV
  go_enter Ybad.func32, Ybad.ntmps32
  go_wp2
  refine wp_world ?_
  intro V hV
  have hr : V.rowIs (w.heap.size + 1) 103 16 (fun k => (z16[k]?).getD undef) := by
    rw [hV]
    have := row_new (w.alloc (.cells #[.int .u64 0, .int .u64 0, .pointer none] 46)) z16 103
    rw [World.size_alloc] at this
    exact this
  have hr0 : V.rowIs w.heap.size 46 3 (fun k => (#[Value.int .u64 0, .int .u64 0, .pointer none][k]?).getD undef) := by rw [hV]; exact (row_new w _ 46).alloc _
  have hT : Hid (Turn [] w V) := by rw [hV]; exact ((Turn.refl [] w).alloc _).alloc _
  have c0 := hr0.cell (i := 0) (by omega)
  have c1 := hr0.cell (i := 1) (by omega)
  simp only [List.getElem?_toArray, List.getElem?_cons_zero, List.getElem?_cons_succ, Option.getD_some] at c0 c1
  have XR : Hid (V.rowIs (w.heap.size + 1) 103 16 (fun k => (z16[k]?).getD undef)) := hr
  have e0 := hr.cell (i := 0) (by omega)
  have n0 := hr.frozen 0
  have e1 := hr.cell (i := 1) (by omega)
  have n1 := hr.frozen 1
  have e2 := hr.cell (i := 2) (by omega)
  have n2 := hr.frozen 2
  have e3 := hr.cell (i := 3) (by omega)
  have n3 := hr.frozen 3
  have e4 := hr.cell (i := 4) (by omega)
  have n4 := hr.frozen 4
  have e5 := hr.cell (i := 5) (by omega)
  have n5 := hr.frozen 5
  have e6 := hr.cell (i := 6) (by omega)
  have n6 := hr.frozen 6
  have e7 := hr.cell (i := 7) (by omega)
  have n7 := hr.frozen 7
  have e8 := hr.cell (i := 8) (by omega)
  have n8 := hr.frozen 8
  have e9 := hr.cell (i := 9) (by omega)
  have n9 := hr.frozen 9
  have e10 := hr.cell (i := 10) (by omega)
  have n10 := hr.frozen 10
  have e11 := hr.cell (i := 11) (by omega)
  have n11 := hr.frozen 11
  have e12 := hr.cell (i := 12) (by omega)
  have n12 := hr.frozen 12
  have e13 := hr.cell (i := 13) (by omega)
  have n13 := hr.frozen 13
  have e14 := hr.cell (i := 14) (by omega)
  have n14 := hr.frozen 14
  have e15 := hr.cell (i := 15) (by omega)
  have n15 := hr.frozen 15
  simp only [z16, List.getElem?_toArray, List.getElem?_cons_zero, List.getElem?_cons_succ, Option.getD_some] at e0 e1 e2 e3 e4 e5 e6 e7 e8 e9 e10 e11 e12 e13 e14 e15
  have s0 := setCell_id e0
  have s1 := setCell_id e1
  have s2 := setCell_id e2
  have s3 := setCell_id e3
  have s4 := setCell_id e4
  have s5 := setCell_id e5
  have s6 := setCell_id e6
  have s7 := setCell_id e7
  have s8 := setCell_id e8
  have s9 := setCell_id e9
  have s10 := setCell_id e10
  have s11 := setCell_id e11
  have s12 := setCell_id e12
  have s13 := setCell_id e13
  have s14 := setCell_id e14
  have s15 := setCell_id e15
  clear hr hr0 hV
  go_region_with (go_at_call 46; refine (X46.out V.drew 0 16 XR.out (.inl rfl)).mono ?_; rintro e w' ⟨rfl, rfl⟩)
  all_goals go_wp2
  all_goals go_region_with (go_at_call 46; refine (X46.out V.drew.drew 8 8 XR.out (.inr rfl)).mono ?_; rintro e w' ⟨rfl, rfl⟩)
  all_goals go_wp2
  all_goals exact bodyPost_ret (res_cell rfl rfl (run_loadVar_mid _ _ _ _ z16.toList _ (row_range XR.out 0 z16.toList (by simp [z16]) z16_at) Ybad.underlying103 rfl size103)) rfl ⟨rfl, hT.out.drew.drew⟩

end Go.Proofs.YbulkbdskDoor
