import Derived.Test.YbulkbdtmDoorTable
/-! The plain model of placing a group's entries into a table: each entry of the mask, in slot order, takes the lowest free slot of its home group. -/
namespace Go.Proofs.YbulkbdtmDoor
open Go.RowKit

section
variable (m : Nat) (H B : Nat → Nat) (W0 : Nat → Nat) (X : Nat → Int)
/-- The control words behind the first i slots. -/
def uW : Nat → Nat → Nat
  | 0 => W0
  | i + 1 => if m.testBit i then (fun j => if j = H i then withN (uW i j) (tz (freeM (uW i j))) (B i) else uW i j) else uW i
/-- What was laid into slot k of group j (keys or values). -/
def uE : Nat → Nat → Nat → Int
  | 0 => fun _ _ => 0
  | i + 1 => if m.testBit i then (fun j k => if j = H i ∧ k = tz (freeM (uW m H B W0 i (H i))) then X i else uE i j k) else uE i
end
section
variable {m : Nat} {H B : Nat → Nat} {W0 : Nat → Nat} {X : Nat → Int}
theorem uW_yes {i : Nat} (h : m.testBit i = true) (j : Nat) : uW m H B W0 (i + 1) j = if j = H i then withN (uW m H B W0 i j) (tz (freeM (uW m H B W0 i j))) (B i) else uW m H B W0 i j := by simp [uW, h]
theorem uW_no {i : Nat} (h : m.testBit i = false) : uW m H B W0 (i + 1) = uW m H B W0 i := by simp [uW, h]
theorem uE_yes {i : Nat} (h : m.testBit i = true) (j k : Nat) : uE m H B W0 X (i + 1) j k = if j = H i ∧ k = tz (freeM (uW m H B W0 i (H i))) then X i else uE m H B W0 X i j k := by simp [uE, h]
theorem uE_no {i : Nat} (h : m.testBit i = false) : uE m H B W0 X (i + 1) = uE m H B W0 X i := by simp [uE, h]
theorem u_gap {i : Nat} : ∀ d, (∀ x, i ≤ x → x < i + d → m.testBit x = false) → uW m H B W0 (i + d) = uW m H B W0 i ∧ uE m H B W0 X (i + d) = uE m H B W0 X i
  | 0, _ => ⟨rfl, rfl⟩
  | d + 1, h => by
    have ih := u_gap d (fun x h1 h2 => h x h1 (by omega))
    have hb := h (i + d) (by omega) (by omega)
    rw [← Nat.add_assoc, uW_no hb, uE_no hb]
    exact ih
theorem uW_lt (hW : ∀ j, W0 j < 18446744073709551616) : ∀ i j, uW m H B W0 i j < 18446744073709551616
  | 0, j => hW j
  | i + 1, j => by
    by_cases h : m.testBit i = true
    · rw [uW_yes h]
      split
      · exact withN_lt _ _ _
      · exact uW_lt hW i j
    · rw [uW_no (by simpa using h)]
      exact uW_lt hW i j
end

/-- The cells of the groups: each group's eight values, then its eight keys. -/
def grpF (EV EK : Nat → Nat → Int) : Nat → Value := fun x => if x % 16 < 8 then .int .i64 (EV (x / 16) (x % 16)) else .int .i64 (EK (x / 16) (x % 16 - 8))
def ctlF (W : Nat → Nat) : Nat → Value := fun j => .int .u64 (W j)
/-- The cells of the group that is placed. -/
def srcF (V K : Nat → Int) : Nat → Value := fun x => if x < 8 then .int .i64 (V x) else .int .i64 (K (x - 8))
def psF (ps : Nat → Nat) : Nat → Value := fun x => .int .u64 (ps x)

/-- Of all blocks only C and G may have turned. -/
structure Only2 (C G : Nat) (w w' : World) : Prop where
  os : w'.os = w.os
  tape : w'.tape = w.tape
  output : w'.output = w.output
  size : w'.heap.size = w.heap.size
  block : ∀ k, k ≠ C → k ≠ G → w'.heap[k]? = w.heap[k]?
namespace Only2
variable {C G : Nat} {w w' w'' : World}
theorem refl (C G : Nat) (w : World) : Only2 C G w w := ⟨rfl, rfl, rfl, rfl, fun _ _ _ => rfl⟩
theorem drewN (h : Only2 C G w w') (n : Nat) : Only2 C G w (w'.drewN n) := ⟨h.os, h.tape, h.output, h.size, h.block⟩
theorem drew (h : Only2 C G w w') : Only2 C G w w'.drew := ⟨h.os, h.tape, h.output, h.size, h.block⟩
theorem setC (h : Only2 C G w w') (i : Nat) (v : Value) : Only2 C G w (w'.setCell ⟨C, i, none⟩ v) :=
  ⟨h.os, h.tape, h.output, by rw [← h.size]; simp [World.setCell], fun k hc hg => by rw [Below.heap_setCell _ _ _ _ hc]; exact h.block k hc hg⟩
theorem setG (h : Only2 C G w w') (i : Nat) (v : Value) : Only2 C G w (w'.setCell ⟨G, i, none⟩ v) :=
  ⟨h.os, h.tape, h.output, by rw [← h.size]; simp [World.setCell], fun k hc hg => by rw [Below.heap_setCell _ _ _ _ hg]; exact h.block k hc hg⟩
theorem row (h : Only2 C G w w') {b t n : Nat} {f : Nat → Value} (hb : w.rowIs b t n f) (h1 : b ≠ C) (h2 : b ≠ G) : w'.rowIs b t n f := hb.of_block (h.block b h1 h2)
theorem cell (h : Only2 C G w w') (a : Addr) (h1 : a.block ≠ C) (h2 : a.block ≠ G) : w'.cell? a = w.cell? a := World.cell?_of_block (h.block a.block h1 h2)
end Only2

/-- The table's rows at state i. -/
structure URow (C G n : Nat) (W : Nat → Nat) (EV EK : Nat → Nat → Int) (wr : World) : Prop where
  ctl : wr.rowIs C 25 n (ctlF W)
  grp : wr.rowIs G 35 (n * 16) (grpF EV EK)

theorem URow.drewN {C G n : Nat} {W : Nat → Nat} {EV EK : Nat → Nat → Int} {wr : World} (h : URow C G n W EV EK wr) (k : Nat) : URow C G n W EV EK (wr.drewN k) := ⟨h.ctl, h.grp⟩

/-- One entry placed: its control word, its key, its value. -/
theorem URow.step {C G n : Nat} {W : Nat → Nat} {EV EK : Nat → Nat → Int} {wr : World} (h : URow C G n W EV EK wr) (hCG : C ≠ G) (j k c : Nat) (key val : Int) (hk : k < 8) :
    URow C G n (fun x => if x = j then c else W x) (fun x y => if x = j ∧ y = k then val else EV x y) (fun x y => if x = j ∧ y = k then key else EK x y)
      (((wr.setCell ⟨C, j, none⟩ (.int .u64 c)).setCell ⟨G, j * 16 + 8 + k, none⟩ (.int .i64 key)).setCell ⟨G, j * 16 + k, none⟩ (.int .i64 val)) where
  ctl := (((h.ctl.set j _).setOther (by exact hCG) _).setOther (by exact hCG) _).congr (fun i _ => by
    unfold ctlF
    by_cases e : i = j <;> simp [e])
  grp := ((((h.grp.setOther (by exact fun e => hCG e.symm) _).set _ _).set _ _)).congr (fun x _ => by
    simp only [grpF]
    by_cases e1 : x = j * 16 + k
    · subst e1
      rw [if_pos rfl, if_pos (by omega), if_pos (by omega)]
    · rw [if_neg e1]
      by_cases e2 : x = j * 16 + 8 + k
      · subst e2
        rw [if_pos rfl, if_neg (by omega), if_pos (by omega)]
      · rw [if_neg e2]
        by_cases e3 : x % 16 < 8
        · rw [if_pos e3, if_pos e3, if_neg (by omega)]
        · rw [if_neg e3, if_neg e3, if_neg (by omega)])
end Go.Proofs.YbulkbdtmDoor
