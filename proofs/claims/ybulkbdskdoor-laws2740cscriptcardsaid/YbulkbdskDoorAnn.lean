/-
  The announce in memory; what a put loads of it.
-/
import Derived.Test.YbulkbdskDoorState
import Derived.StillTactics
namespace Go.Proofs.YbulkbdskDoor
open Go Go.RowKit

/-- An announce's 83 cells. -/
def acell (id port : Nat) (dn ev : Bool) (k : Nat) : Value :=
  if k < 20 then .int .u8 0 else if k = 20 then .int .u8 ((id : Int) + 1) else if k < 40 then .int .u8 0 else if k < 42 then .int .u64 0 else if k = 42 then .pointer none else if k = 43 then .int .u16 (port : Int)
  else if k < 76 then .int .u8 0 else if k = 76 then .bool false else if k = 77 then .bool dn else if k = 78 then .bool ev else if k = 79 then .bool false else if k = 80 then .int .i64 0 else .bool false

def k32 : Array Value := #[.int .u8 0, .int .u8 0, .int .u8 0, .int .u8 0, .int .u8 0, .int .u8 0, .int .u8 0, .int .u8 0, .int .u8 0, .int .u8 0, .int .u8 0, .int .u8 0, .int .u8 0, .int .u8 0, .int .u8 0, .int .u8 0, .int .u8 0, .int .u8 0, .int .u8 0, .int .u8 0, .int .u8 0, .int .u8 0, .int .u8 0, .int .u8 0, .int .u8 0, .int .u8 0, .int .u8 0, .int .u8 0, .int .u8 0, .int .u8 0, .int .u8 0, .int .u8 0]

theorem size52 : (Ybad.prog.info? 52).map (·.size) = some 32 := by kernel_rfl

section
variable {w : World} {ab id port : Nat} {dn ev : Bool}

theorem ann_id (h : w.rowIs ab 54 83 (acell id port dn ev)) : (loadVar 50 ⟨ab, 20, none⟩).run Ybad.prog w = .ok (idV id) w := by
  refine run_loadVar_mid w ab 20 50 (idA id).toList _ (row_range h 20 _ (by simp [idA]) (fun k hk => ?_)) Ybad.underlying50 rfl size50
  have hk : k < 20 := by simpa [idA] using hk
  obtain rfl | rfl | rfl | rfl | rfl | rfl | rfl | rfl | rfl | rfl | rfl | rfl | rfl | rfl | rfl | rfl | rfl | rfl | rfl | rfl : k = 0 ∨ k = 1 ∨ k = 2 ∨ k = 3 ∨ k = 4 ∨ k = 5 ∨ k = 6 ∨ k = 7 ∨ k = 8 ∨ k = 9 ∨ k = 10 ∨ k = 11 ∨ k = 12 ∨ k = 13 ∨ k = 14 ∨ k = 15 ∨ k = 16 ∨ k = 17 ∨ k = 18 ∨ k = 19 := by omega
  all_goals rfl

theorem ann_ep (h : w.rowIs ab 54 83 (acell id port dn ev)) : (loadVar 48 ⟨ab, 40, none⟩).run Ybad.prog w = .ok (epV port) w := by
  refine run_loadVar_mid w ab 40 48 [.int .u64 0, .int .u64 0, .pointer none, .int .u16 (port : Int)] _ (row_range h 40 _ (by simp) (fun k hk => ?_)) Ybad.underlying48 rfl size48
  have hk : k < 4 := hk
  obtain rfl | rfl | rfl | rfl : k = 0 ∨ k = 1 ∨ k = 2 ∨ k = 3 := by omega
  all_goals rfl

theorem ann_key (h : w.rowIs ab 54 83 (acell id port dn ev)) : (loadVar 52 ⟨ab, 44, none⟩).run Ybad.prog w = .ok (.agg k32) w := by
  refine run_loadVar_mid w ab 44 52 k32.toList _ (row_range h 44 _ (by simp [k32]) (fun k hk => ?_)) Ybad.underlying52 rfl size52
  have hk : k < 32 := by simpa [k32] using hk
  have e : acell id port dn ev (44 + k) = .int .u8 0 := by
    unfold acell
    rw [if_neg (by omega), if_neg (by omega), if_neg (by omega), if_neg (by omega), if_neg (by omega), if_neg (by omega), if_pos (by omega)]
  rw [e]
  obtain rfl | rfl | rfl | rfl | rfl | rfl | rfl | rfl | rfl | rfl | rfl | rfl | rfl | rfl | rfl | rfl | rfl | rfl | rfl | rfl | rfl | rfl | rfl | rfl | rfl | rfl | rfl | rfl | rfl | rfl | rfl | rfl : k = 0 ∨ k = 1 ∨ k = 2 ∨ k = 3 ∨ k = 4 ∨ k = 5 ∨ k = 6 ∨ k = 7 ∨ k = 8 ∨ k = 9 ∨ k = 10 ∨ k = 11 ∨ k = 12 ∨ k = 13 ∨ k = 14 ∨ k = 15 ∨ k = 16 ∨ k = 17 ∨ k = 18 ∨ k = 19 ∨ k = 20 ∨ k = 21 ∨ k = 22 ∨ k = 23 ∨ k = 24 ∨ k = 25 ∨ k = 26 ∨ k = 27 ∨ k = 28 ∨ k = 29 ∨ k = 30 ∨ k = 31 := by omega
  all_goals rfl
end

/-- The peer that a put appends. -/
def fresh (id : Nat) (br : Bool) : Peer := { id := id, port := 0, done := false, br := br, s := 0 }

theorem build_peer (id : Nat) (hi : id < 4) (br : Bool) (w : World) : (Instr.build 77 #[(0, idV id), (1, .agg k32), (5, .bool br)]).run Ybad.prog w = .ok (.agg (pcs (fresh id br)).toArray) w := by
  obtain rfl | rfl | rfl | rfl : id = 0 ∨ id = 1 ∨ id = 2 ∨ id = 3 := by omega
  all_goals cases br
  all_goals kernel_rfl

theorem buildSlice_peer (id : Nat) (hi : id < 4) (br : Bool) (w : World) : (Instr.buildSlice 61 1 #[(0, .agg (pcs (fresh id br)).toArray)]).run Ybad.prog w = .ok (.slice (some ⟨w.heap.size, 0, none⟩) 1 1) (w.alloc (.cells (pcs (fresh id br)).toArray 77)) := by
  obtain rfl | rfl | rfl | rfl : id = 0 ∨ id = 1 ∨ id = 2 ∨ id = 3 := by omega
  all_goals cases br
  all_goals kernel_rfl

theorem neq50 (i j : Nat) (hi : i < 4) (hj : j < 4) (w : World) : (binOp .neq 50 (idV i) (idV j)).run Ybad.prog w = .ok (.bool (decide (i ≠ j))) w := by
  obtain rfl | rfl | rfl | rfl : i = 0 ∨ i = 1 ∨ i = 2 ∨ i = 3 := by omega
  all_goals obtain rfl | rfl | rfl | rfl : j = 0 ∨ j = 1 ∨ j = 2 ∨ j = 3 := by omega
  all_goals kernel_rfl
theorem neq48 (i j : Nat) (hi : i < 3) (hj : j < 3) (w : World) : (binOp .neq 48 (epV i) (epV j)).run Ybad.prog w = .ok (.bool (decide (i ≠ j))) w := by
  obtain rfl | rfl | rfl : i = 0 ∨ i = 1 ∨ i = 2 := by omega
  all_goals obtain rfl | rfl | rfl : j = 0 ∨ j = 1 ∨ j = 2 := by omega
  all_goals kernel_rfl
theorem guard50 (x y : Tmp) (i j : Nat) (w : World) : (eqGuard .neq 50 (.tmp x) (.tmp y) (idV i) (idV j)).run Ybad.prog w = .ok () w := by kernel_rfl
theorem guard48 (x y : Tmp) (i j : Nat) (w : World) : (eqGuard .neq 48 (.tmp x) (.tmp y) (epV i) (epV j)).run Ybad.prog w = .ok () w := by kernel_rfl

section
variable {P : Program} {ops : Array Oper} {w : World}
theorem exec_lookup {o : Oper} {a : Act} {t : TypeId} {m x : Operand} {ok : Bool} {mv kv v : Value} (hop : o.op = .lookup t m x ok) (hm : a.eval m = mv) (hx : a.eval x = kv) (hl : (Instr.lookup t mv kv ok).run P w = .ok v w) : (execOp a.eval o).run P w = .ok (.value v) w := by
  simp [execOp, hop, hm, hx, hl, Result.andThen]

theorem exec_build {o : Oper} {a : Act} {t : TypeId} {parts : Array (Nat × Operand)} {ps : Array (Nat × Value)} {v : Value} (hop : o.op = .build t parts) (hp : (parts.map fun q => (q.1, a.eval q.2)) = ps) (hl : (Instr.build t ps).run P w = .ok v w) : (execOp a.eval o).run P w = .ok (.value v) w := by
  simp only [execOp, hop]
  subst hp
  simp [hl, Result.andThen]

theorem exec_neq {o : Oper} {a : Act} {t t' : TypeId} {x y : Operand} {xv yv v : Value} (hop : o.op = .binOp .neq t x y t') (hx : a.eval x = xv) (hy : a.eval y = yv) (hg : (eqGuard .neq t x y xv yv).run P w = .ok () w) (hl : (binOp .neq t xv yv).run P w = .ok v w) : (execOp a.eval o).run P w = .ok (.value v) w := by
  simp [execOp, hop, hx, hy, hg, hl, Result.andThen]

/-- An operation behind a guard that holds. -/
theorem wpStill_guard (d : Tmp) {Lq : Act → Prop} {a : Act} {o : Oper} {rest : List Oper} {v : Value} (hd : o.dst = some d) (hg : Region.wanted o (yielded ops a.tmps) = true) (hrun : (execOp a.eval o).run P w = .ok (.value v) w) (h : wpStill P ops w Lq rest (a.put (some d) v)) : wpStill P ops w Lq (o :: rest) a := by
  refine wpStill_step (fun K hK => ?_)
  rw [if_pos hg]
  unfold Oper.still
  rw [hrun]
  simp only [Oper.stillUpon, hd]
  exact ⟨trivial, hK _ h⟩
end

end Go.Proofs.YbulkbdskDoor
