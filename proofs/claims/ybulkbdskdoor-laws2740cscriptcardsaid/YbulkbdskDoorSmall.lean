/-
  memberOf, groupOf, (*Index).Placement.
-/
import Derived.Test.YbulkbdskDoorPoint
namespace Go.Proofs.YbulkbdskDoor
open Go Go.RowKit

theorem rangeAt_new (w : World) (c : Array Value) (t : TypeId) : (w.alloc (.cells c t)).rangeAt w.heap.size 0 c.toList := fun j v hv => by
  rw [cell_of_row _ _ (0 + j) c t (0, 0) (World.alloc_heap_new w _)]
  simpa using hv

theorem row_new (w : World) (c : Array Value) (t : TypeId) : (w.alloc (.cells c t)).rowIs w.heap.size t c.size (fun i => (c[i]?).getD undef) :=
  World.rowIs_alloc w c t _ (fun i hi => by simp [Array.getElem?_eq_getElem hi])

/-- The cells of a row, as a range. -/
theorem row_range {w : World} {b t n : Nat} {f : Nat → Value} (h : w.rowIs b t n f) (o : Nat) (cs : List Value) (hl : o + cs.length ≤ n) (hf : ∀ j, j < cs.length → cs[j]? = some (f (o + j))) : w.rangeAt b o cs := fun j v hv => by
  have hj : j < cs.length := (List.getElem?_eq_some_iff.1 hv).1
  rw [h.cell (by omega), ← hf j hj, hv]

/-- One result, in a cell. -/
theorem res_cell {P : Program} {fn : Func} {p : Tmp} {ty : TypeId} {tmps : Array Value} {w : World} {a : Addr} {v : Value} (h : fn.results = #[.cell p ty]) (ht : tmps.getD p undef = .pointer (some a))
    (hl : (loadVar ty a).run P w = .ok v w) : (results fn tmps).run P w = .ok v w := by
  have ht' : tmps[p]?.getD undef = .pointer (some a) := by rw [← ht]; simp
  simp only [results, h]
  simp [asAddr, ht', hl]

/-- Two results, the first in a cell. -/
theorem res_cell_tmp {P : Program} {fn : Func} {p u : Tmp} {ty : TypeId} {tmps : Array Value} {w : World} {a : Addr} {v x : Value} (h : fn.results = #[.cell p ty, .tmp u]) (ht : tmps.getD p undef = .pointer (some a))
    (hl : (loadVar ty a).run P w = .ok v w) (hu : tmps.getD u undef = x) : (results fn tmps).run P w = .ok (.tuple #[v, x]) w := by
  have ht' : tmps[p]?.getD undef = .pointer (some a) := by rw [← ht]; simp
  have hu' : tmps[u]?.getD undef = x := by rw [← hu]; simp
  simp only [results, h]
  simp [Result.andThen, asAddr, ht', hl, hu']

theorem size136 : (Ybad.prog.info? 136).map (·.size) = some 3 := by kernel_rfl
theorem size92 : (Ybad.prog.info? 92).map (·.size) = some 9 := by kernel_rfl

set_option maxHeartbeats 1000000 in
set_option maxRecDepth 100000 in
theorem groupOf1 (pb o : Nat) (w : World) (h : w.cell? ⟨pb, o + 6, none⟩ = some (.string ⟨#[]⟩)) :
    Calls Ybad.prog 54 #[.pointer (some ⟨pb, o, none⟩), .int .u8 1] w fun e w' => e = .returned (.tuple #[.agg #[.int .u8 1, .int .u32 0, .string ⟨#[]⟩], .bool false]) ∧ Turn [] w w' := by
  have hb : pb < w.heap.size := World.block_lt_of_cell? w ⟨pb, o + 6, none⟩ h
  go_enter Ybad.func54, Ybad.ntmps54
  go_wp2
  go_region
  all_goals go_wp2
  all_goals exact bodyPost_ret (res_cell_tmp rfl rfl (run_loadVar_mid _ _ _ _ _ _ (rangeAt_new _ _ _) Ybad.underlying136 rfl size136) rfl) rfl ⟨rfl, ((Turn.refl _ _).alloc _).drew⟩

set_option maxHeartbeats 1000000 in
set_option maxRecDepth 100000 in
theorem groupOf2 (pb o : Nat) (w : World) (h : w.cell? ⟨pb, o + 7, none⟩ = some (.string ⟨#[]⟩)) :
    Calls Ybad.prog 54 #[.pointer (some ⟨pb, o, none⟩), .int .u8 2] w fun e w' => e = .returned (.tuple #[.agg #[.int .u8 2, .int .u32 0, .string ⟨#[]⟩], .bool false]) ∧ Turn [] w w' := by
  have hb : pb < w.heap.size := World.block_lt_of_cell? w ⟨pb, o + 7, none⟩ h
  go_enter Ybad.func54, Ybad.ntmps54
  go_wp2
  go_region
  all_goals go_wp2
  all_goals exact bodyPost_ret (res_cell_tmp rfl rfl (run_loadVar_mid _ _ _ _ _ _ (rangeAt_new _ _ _) Ybad.underlying136 rfl size136) rfl) rfl ⟨rfl, ((Turn.refl _ _).alloc _).drew⟩

set_option maxHeartbeats 1000000 in
set_option maxRecDepth 100000 in
theorem memberOf0 (pb o : Nat) (w : World) (h : w.cell? ⟨pb, o + 4, none⟩ = some (.int .u32 0)) :
    Calls Ybad.prog 40 #[.pointer (some ⟨pb, o, none⟩), .int .u8 0] w fun e w' => e = .returned (.tuple #[.agg #[.int .u8 0, .int .u32 0, .string ⟨#[]⟩], .bool true]) ∧ Turn [] w w' := by
  have hb : pb < w.heap.size := World.block_lt_of_cell? w ⟨pb, o + 4, none⟩ h
  go_enter Ybad.func40, Ybad.ntmps40
  go_wp2
  exact bodyPost_ret (res_cell_tmp rfl rfl (run_loadVar_mid _ _ _ _ _ _ (rangeAt_new _ _ _) Ybad.underlying136 rfl size136) rfl) rfl ⟨rfl, ((Turn.refl _ _).alloc _)⟩

set_option maxHeartbeats 1000000 in
set_option maxRecDepth 100000 in
theorem memberOf1 (pb o : Nat) (w : World) (h : w.cell? ⟨pb, o + 6, none⟩ = some (.string ⟨#[]⟩)) :
    Calls Ybad.prog 40 #[.pointer (some ⟨pb, o, none⟩), .int .u8 1] w fun e w' => e = .returned (.tuple #[.agg #[.int .u8 1, .int .u32 0, .string ⟨#[]⟩], .bool false]) ∧ Turn [] w w' := by
  have hb : pb < w.heap.size := World.block_lt_of_cell? w ⟨pb, o + 6, none⟩ h
  have hc := groupOf1 pb o (w.alloc (.cells #[.int .u8 0, .int .u32 0, .string ⟨#[]⟩] 136)) (by rw [World.cell?_alloc_lt _ _ _ hb]; exact h)
  go_enter Ybad.func40, Ybad.ntmps40
  go_wp2_with (go_at_call 54; refine hc.mono ?_; rintro e w' ⟨rfl, ht⟩; have hr := ht.row (row_new w #[.int .u8 0, .int .u32 0, .string ⟨#[]⟩] 136) (by simp); have c0 := hr.cell (i := 0) (by simp); have c1 := hr.cell (i := 1) (by simp); have c2 := hr.cell (i := 2) (by simp); have n0 := hr.frozen 0; have n1 := hr.frozen 1; have n2 := hr.frozen 2; have XR : Hid (w'.rowIs w.heap.size 136 3 (fun i => (#[Value.int .u8 0, .int .u32 0, .string ⟨#[]⟩][i]?).getD undef)) := hr; clear hr)
  exact bodyPost_ret (res_cell_tmp rfl rfl (run_loadVar_mid _ _ _ _ [.int .u8 1, .int .u32 0, .string ⟨#[]⟩] _ (row_range (((XR.out.set 0 _).set 1 _).set 2 _) 0 _ (by simp) (fun j hj => by
      match j, hj with
      | 0, _ => rfl
      | 1, _ => rfl
      | 2, _ => rfl)) Ybad.underlying136 rfl size136) rfl) rfl
    ⟨rfl, ((((Turn.refl [] w).alloc _).trans ht).setCell (.inr (Nat.le_refl _)) _).setCell (.inr (Nat.le_refl _)) _ |>.setCell (.inr (Nat.le_refl _)) _⟩

set_option maxHeartbeats 1000000 in
set_option maxRecDepth 100000 in
theorem memberOf2 (pb o : Nat) (w : World) (h : w.cell? ⟨pb, o + 7, none⟩ = some (.string ⟨#[]⟩)) :
    Calls Ybad.prog 40 #[.pointer (some ⟨pb, o, none⟩), .int .u8 2] w fun e w' => e = .returned (.tuple #[.agg #[.int .u8 2, .int .u32 0, .string ⟨#[]⟩], .bool false]) ∧ Turn [] w w' := by
  have hb : pb < w.heap.size := World.block_lt_of_cell? w ⟨pb, o + 7, none⟩ h
  have hc := groupOf2 pb o (w.alloc (.cells #[.int .u8 0, .int .u32 0, .string ⟨#[]⟩] 136)) (by rw [World.cell?_alloc_lt _ _ _ hb]; exact h)
  go_enter Ybad.func40, Ybad.ntmps40
  go_wp2_with (go_at_call 54; refine hc.mono ?_; rintro e w' ⟨rfl, ht⟩; have hr := ht.row (row_new w #[.int .u8 0, .int .u32 0, .string ⟨#[]⟩] 136) (by simp); have c0 := hr.cell (i := 0) (by simp); have c1 := hr.cell (i := 1) (by simp); have c2 := hr.cell (i := 2) (by simp); have n0 := hr.frozen 0; have n1 := hr.frozen 1; have n2 := hr.frozen 2; have XR : Hid (w'.rowIs w.heap.size 136 3 (fun i => (#[Value.int .u8 0, .int .u32 0, .string ⟨#[]⟩][i]?).getD undef)) := hr; clear hr)
  exact bodyPost_ret (res_cell_tmp rfl rfl (run_loadVar_mid _ _ _ _ [.int .u8 2, .int .u32 0, .string ⟨#[]⟩] _ (row_range (((XR.out.set 0 _).set 1 _).set 2 _) 0 _ (by simp) (fun j hj => by
      match j, hj with
      | 0, _ => rfl
      | 1, _ => rfl
      | 2, _ => rfl)) Ybad.underlying136 rfl size136) rfl) rfl
    ⟨rfl, ((((Turn.refl [] w).alloc _).trans ht).setCell (.inr (Nat.le_refl _)) _).setCell (.inr (Nat.le_refl _)) _ |>.setCell (.inr (Nat.le_refl _)) _⟩

/-- The cells of a zero Placement. -/
def zp (k : Nat) : Value := match k with
  | 0 | 1 => .int .u64 0
  | 2 => .pointer none
  | 3 => .int .u8 0
  | 4 => .int .u32 0
  | 5 | 6 | 7 => .string ⟨#[]⟩
  | _ => .int .u8 0

set_option maxHeartbeats 1000000 in
set_option maxRecDepth 100000 in
theorem placement_any (tb i n : Nat) (tf : Nat → Value) (w : World) (hT : w.rowIs tb 75 17 tf) (hP : Sl w tb 92 9 (tf 1) n (fun k => zp (k % 9))) (hi : i < n) (hn : n ≤ 3) :
    Calls Ybad.prog 30 #[.pointer (some ⟨tb, 1, none⟩), .int .i64 (i : Int)] w fun e w' => e = .returned (.agg #[.int .u64 0, .int .u64 0, .pointer none, .int .u8 0, .int .u32 0, .string ⟨#[]⟩, .string ⟨#[]⟩, .string ⟨#[]⟩, .int .u8 0]) ∧ Turn [] w w' := by
  obtain ⟨pb, cap, F, hv, hlt, hnc, _, hR, hF⟩ := hP.pos (by omega)
  have c1 := hT.cell (i := 1) (by omega)
  rw [hv] at c1
  have hc : ∀ k, k < 9 → w.cell? ⟨pb, i * 9 + k, none⟩ = some (zp k) := fun k hk => by
    rw [hR.cell (by omega), hF _ (by omega)]
    congr 2
    omega
  have d0 := hc 0 (by omega)
  have d1 := hc 1 (by omega)
  have d2 := hc 2 (by omega)
  have d3 := hc 3 (by omega)
  have d4 := hc 4 (by omega)
  have d5 := hc 5 (by omega)
  have d6 := hc 6 (by omega)
  have d7 := hc 7 (by omega)
  have d8 := hc 8 (by omega)
  simp only [Nat.add_zero, zp] at d0 d1 d2 d3 d4 d5 d6 d7 d8
  have hb : pb < w.heap.size := hR.lt
  have ht : tb < w.heap.size := hT.lt
  clear hc hF hR hT hP hv
  go_enter Ybad.func30, Ybad.ntmps30
  go_wp2
  exact bodyPost_ret (res_cell rfl rfl (run_loadVar_mid _ _ _ _ _ _ (rangeAt_new _ _ _) Ybad.underlying92 rfl size92)) rfl ⟨rfl, ((Turn.refl _ _).alloc _)⟩

end Go.Proofs.YbulkbdskDoor
