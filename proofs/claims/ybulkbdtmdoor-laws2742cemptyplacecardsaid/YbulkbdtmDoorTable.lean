import Derived.Test.YbulkbdtmDoorMask
import Derived.WalkKit
import Derived.WalkSpells
import Derived.WalkLawsBesides
import Derived.Deep.OwnRows
import Derived.Deep.RegionWith
import Derived.RegionTactic
import Derived.Deep.QuietTactic
import Derived.BigQuiet
import Derived.Lib.LazyBuf
namespace Go.Proofs.YbulkbdtmDoor
open Go.RowKit

/-- The twelve cells of a table of n groups. -/
def tblL (n : Nat) (gs cs : Value) (d st : Int) : List Value :=
  [.int .i64 0, .int .i64 ((n : Int) * 8 * 15 / 16), .int .i64 0, gs, cs, .int .i64 d, .int .u64 st, .bool false, .bool false, .int .i64 0, .int .i64 0, .pointer none]
def tblF (n : Nat) (gs cs : Value) (d st : Int) : Nat → Value := fun i => (tblL n gs cs d st)[i]?.getD default

theorem tbl_row {T : Nat} {w : World} {f : Nat → Value} (h : w.rowIs T 47 12 f) (n : Nat) (gs cs : Value) (d st : Int) : (w.setCells T 0 (tblL n gs cs d st)).rowIs T 47 12 (tblF n gs cs d st) :=
  (rowIs_setCells _ 0 w f h).congr (fun i hi => by rw [if_pos ⟨Nat.zero_le _, by simpa [tblL] using hi⟩]; rfl)

theorem Ybad.info35 : (Ybad.prog.info? 35).map (fun i => (i.zero, i.size, i.bytes)) = some (some (.agg (Array.replicate 16 (.int .i64 0))), 16, 128) := by kernel_rfl
theorem Ybad.info25 : (Ybad.prog.info? 25).map (fun i => (i.zero, i.size, i.bytes)) = some (some (.int .u64 0), 1, 8) := by kernel_rfl

/-- The cells that make lays, behind names. -/
def mkC (n : Nat) : Array Value := madeCells #[.int .u64 0] n
def mkG (n : Nat) : Array Value := madeCells (Array.replicate 16 (.int .i64 0)) (n * 16)
theorem make41 (n : Nat) (hn : n ≤ 1024) (W : World) : (Instr.makeSlice 41 (.int .i64 n) (.int .i64 n)).run Ybad.prog W = .ok (.slice (some ⟨W.heap.size, 0, none⟩) n n) (W.alloc (.cells (mkC n) 25)) :=
  run_make_row' 41 25 _ 8 Ybad.underlying41 Ybad.info25 rfl .i64 .i64 n (by omega) (by omega) W
theorem make40 (n : Nat) (hn : n ≤ 1024) (W : World) : (Instr.makeSlice 40 (.int .i64 n) (.int .i64 n)).run Ybad.prog W = .ok (.slice (some ⟨W.heap.size, 0, none⟩) n n) (W.alloc (.cells (mkG n) 35)) := by
  obtain ⟨i0, hi, hz0, hz1, hz2⟩ := info_parts Ybad.info35
  have h := run_make (P := Ybad.prog) W 40 35 i0 _ Ybad.underlying40 hi hz0 .i64 .i64 n n (by omega) (Int.le_refl _) (by rw [hz2]; omega) (by omega)
  rw [hz1] at h
  simpa [mkG, Value.cells] using h
theorem mkC_row (W : World) (n : Nat) : (W.alloc (.cells (mkC n) 25)).rowIs W.heap.size 25 n (fun _ => .int .u64 0) := World.rowIs_made W _ n 25
theorem mkG_row (W : World) (n : Nat) : (W.alloc (.cells (mkG n) 35)).rowIs W.heap.size 35 (n * 16) (fun _ => .int .i64 0) := by
  have e : (mkG n).size = n * 16 := size_madeCells _ _
  have h := World.rowIs_alloc W (mkG n) 35 (fun _ => .int .i64 0) (fun i hi => by
    rw [e] at hi
    have h16 : i % 16 < 16 := Nat.mod_lt _ (by omega)
    simp [mkG, madeCells, hi, h16])
  rwa [e] at h

set_option maxHeartbeats 1000000 in
theorem reset_any (T n : Nat) (a1 a2 : Option Addr) (c1 c2 : Nat) (d : Int) (st : Int) (w : World) (f : Nat → Value) (hT : w.rowIs T 47 12 f) (hn : n ≤ 1024) :
    Calls Ybad.prog 11 #[.pointer (some ⟨T, 0, none⟩), .slice a1 n c1, .slice a2 n c2, .int .i64 0, .int .i64 d, .int .u64 st] w fun e w' => e = .returned (.pointer (some ⟨T, 0, none⟩)) ∧ w' = w.setCells T 0 (tblL n (.slice a2 n c2) (.slice a1 n c1) d st) := by
  have c := fun i hi => hT.cell (i := i) hi
  have f0 := hT.frozen 0
  have f1 := hT.frozen 1
  have f2 := hT.frozen 2
  have f3 := hT.frozen 3
  have f4 := hT.frozen 4
  have f5 := hT.frozen 5
  have f6 := hT.frozen 6
  have f7 := hT.frozen 7
  have f8 := hT.frozen 8
  have f9 := hT.frozen 9
  have f10 := hT.frozen 10
  have f11 := hT.frozen 11
  have k0 := c 0 (by omega)
  have k1 := c 1 (by omega)
  have k2 := c 2 (by omega)
  have k3 := c 3 (by omega)
  have k4 := c 4 (by omega)
  have k5 := c 5 (by omega)
  have k6 := c 6 (by omega)
  have k7 := c 7 (by omega)
  have k8 := c 8 (by omega)
  have k9 := c 9 (by omega)
  have k10 := c 10 (by omega)
  have k11 := c 11 (by omega)
  clear c
  go_enter Ybad.func11, Ybad.ntmps11
  go_wp2
  go_ret
  exact ⟨rfl, rfl⟩

/-- What newTable leaves: a table T of n groups, its control words C (all zero), its groups G (all zero), in new memory. -/
structure NewTab (n : Nat) (d st : Int) (w : World) (T C G : Nat) (w' : World) : Prop where
  tab : w'.rowIs T 47 12 (tblF n (.slice (some ⟨G, 0, none⟩) n n) (.slice (some ⟨C, 0, none⟩) n n) d st)
  ctrl : w'.rowIs C 25 n (fun _ => .int .u64 0)
  groups : w'.rowIs G 35 (n * 16) (fun _ => .int .i64 0)
  below : Below w.heap.size w w'
  ownT : w.heap.size ≤ T
  ownC : w.heap.size ≤ C
  ownG : w.heap.size ≤ G
  apart : T ≠ C ∧ T ≠ G ∧ C ≠ G

theorem newTab_of {n : Nat} {d st : Int} {w w1 : World} {T C G : Nat} {f : Nat → Value} (hT : w1.rowIs T 47 12 f) (hC : w1.rowIs C 25 n (fun _ => .int .u64 0)) (hG : w1.rowIs G 35 (n * 16) (fun _ => .int .i64 0))
    (hb : Below w.heap.size w w1) (h1 : w.heap.size ≤ T) (h2 : w.heap.size ≤ C) (h3 : w.heap.size ≤ G) (ha : T ≠ C ∧ T ≠ G ∧ C ≠ G) :
    NewTab n d st w T C G (w1.setCells T 0 (tblL n (.slice (some ⟨G, 0, none⟩) n n) (.slice (some ⟨C, 0, none⟩) n n) d st)) where
  tab := tbl_row hT _ _ _ _ _
  ctrl := rowIs_setCells_other (by omega) _ _ _ hC
  groups := rowIs_setCells_other (by omega) _ _ _ hG
  below := below_setCells h1 _ _ _ hb
  ownT := h1
  ownC := h2
  ownG := h3
  apart := ha

/-- A table's cells as 'new' lays them. -/
def tab0 : Array Value := #[.int .i64 0, .int .i64 0, .int .i64 0, .slice none 0 0, .slice none 0 0, .int .i64 0, .int .u64 0, .bool false, .bool false, .int .i64 0, .int .i64 0, .pointer none]

theorem row_tab0 {W : World} {T : Nat} (h : W.heap[T]? = some (.cells tab0 47 (0, 0))) : W.rowIs T 47 12 (fun i => tab0[i]?.getD default) :=
  ⟨_, h, rfl, fun i hi => by simp [Array.getElem?_eq_getElem (show i < tab0.size from hi)]⟩
theorem row_mkC {W : World} {C n : Nat} (h : W.heap[C]? = some (.cells (mkC n) 25 (0, 0))) : W.rowIs C 25 n (fun _ => .int .u64 0) :=
  ⟨_, h, size_madeCells _ _, fun i hi => by simp [mkC, madeCells, hi, Nat.mod_one]⟩
theorem row_mkG {W : World} {G n : Nat} (h : W.heap[G]? = some (.cells (mkG n) 35 (0, 0))) : W.rowIs G 35 (n * 16) (fun _ => .int .i64 0) :=
  ⟨_, h, size_madeCells _ _, fun i hi => by
    have h16 : i % 16 < 16 := Nat.mod_lt _ (by omega)
    simp [mkG, madeCells, hi, h16]⟩

theorem three1 (w : World) (a b c : Obj) : ((((w.alloc a).alloc b).alloc c).drew).heap[w.heap.size]? = some a := by
  show ((((w.heap.push a).push b).push c))[w.heap.size]? = some a
  simp only [Array.getElem?_push, Array.size_push]
  rw [if_neg (by omega), if_neg (by omega), if_pos trivial]
theorem three2 (w : World) (a b c : Obj) : ((((w.alloc a).alloc b).alloc c).drew).heap[w.heap.size + 1]? = some b := by
  show ((((w.heap.push a).push b).push c))[w.heap.size + 1]? = some b
  simp only [Array.getElem?_push, Array.size_push]
  rw [if_neg (by omega), if_pos trivial]
theorem three3 (w : World) (a b c : Obj) : ((((w.alloc a).alloc b).alloc c).drew).heap[w.heap.size + 1 + 1]? = some c := by
  show ((((w.heap.push a).push b).push c))[w.heap.size + 1 + 1]? = some c
  simp only [Array.getElem?_push, Array.size_push]
  rw [if_pos trivial]
theorem three_below (w : World) (a b c : Obj) : Below w.heap.size w ((((w.alloc a).alloc b).alloc c).drew) :=
  ((((Below.refl _ w).alloc (Nat.le_refl _) _).alloc (by simp) _).alloc (by simp; omega) _).drew

theorem reset_new (n : Nat) (d st : Int) (w W : World) (T C G : Nat) (hn : n ≤ 1024) (hT : W.heap[T]? = some (.cells tab0 47 (0, 0))) (hC : W.heap[C]? = some (.cells (mkC n) 25 (0, 0))) (hG : W.heap[G]? = some (.cells (mkG n) 35 (0, 0)))
    (hb : Below w.heap.size w W) (h1 : w.heap.size ≤ T) (h2 : w.heap.size ≤ C) (h3 : w.heap.size ≤ G) (ha : T ≠ C ∧ T ≠ G ∧ C ≠ G) :
    Calls Ybad.prog 11 #[.pointer (some ⟨T, 0, none⟩), .slice (some ⟨C, 0, none⟩) n n, .slice (some ⟨G, 0, none⟩) n n, .int .i64 0, .int .i64 d, .int .u64 st] W fun e w' => e = .returned (.pointer (some ⟨T, 0, none⟩)) ∧ NewTab n d st w T C G w' := by
  refine (reset_any T n _ _ n n d st W _ (row_tab0 hT) hn).mono ?_
  rintro e w' ⟨rfl, rfl⟩
  exact ⟨rfl, newTab_of (row_tab0 hT) (row_mkC hC) (row_mkG hG) hb h1 h2 h3 ha⟩

set_option maxHeartbeats 1000000 in
theorem newTable_any (n : Nat) (d st : Int) (w : World) (hn : n ≤ 1024) :
    Calls Ybad.prog 7 #[.int .i64 n, .int .i64 0, .int .i64 d, .int .u64 st] w fun e w' => ∃ T C G, e = .returned (.pointer (some ⟨T, 0, none⟩)) ∧ NewTab n d st w T C G w' := by
  have h41 := make41 n hn
  have h40 := make40 n hn
  go_enter Ybad.func7, Ybad.ntmps7
  go_wp2
  go_region_with (first | (go_at_call 11; refine (reset_new n d st w _ _ _ _ hn (by first | exact three1 _ _ _ _ | exact three2 _ _ _ _ | exact three3 _ _ _ _) (by first | exact three1 _ _ _ _ | exact three2 _ _ _ _ | exact three3 _ _ _ _) (by first | exact three1 _ _ _ _ | exact three2 _ _ _ _ | exact three3 _ _ _ _) (by exact three_below _ _ _ _) (by omega) (by omega) (by omega) (by omega)).mono ?_; rintro e w1 ⟨rfl, hN⟩))
  all_goals
    have HN := hN
    clear hN
    go_wp2
    go_ret
    exact ⟨_, _, _, rfl, HN⟩
end Go.Proofs.YbulkbdtmDoor
