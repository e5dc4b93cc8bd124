/-
  (*Index).point; (*members).remove.
-/
import Derived.Test.YbulkbdskDoorMem
import Derived.Deep.Cut
import Derived.Deep.CutRange
import Derived.Deep.CutBlock
import Derived.Deep.RegionHeld3
namespace Go.Proofs.YbulkbdskDoor
open Go Go.RowKit

theorem row_drewN {w : World} {b t n : Nat} {f : Nat → Value} (h : w.rowIs b t n f) (k : Nat) : (w.drewN k).rowIs b t n f := h

theorem index112_0 (a b c d e f : Value) (W : World) : (Instr.index 112 (.agg #[a, b, c, d, e, f]) (.int .i64 0)).run Ybad.prog W = .ok (.agg #[a, b]) W := by kernel_rfl
theorem index112_1 (a b c d e f : Value) (W : World) : (Instr.index 112 (.agg #[a, b, c, d, e, f]) (.int .i64 1)).run Ybad.prog W = .ok (.agg #[c, d]) W := by kernel_rfl
theorem index112_2 (a b c d e f : Value) (W : World) : (Instr.index 112 (.agg #[a, b, c, d, e, f]) (.int .i64 2)).run Ybad.prog W = .ok (.agg #[e, f]) W := by kernel_rfl

set_option maxHeartbeats 1000000 in
set_option maxRecDepth 100000 in
theorem point_any (tb i ib n icap mb p m dcap db : Nat) (tf F mf g : Nat → Value) (w : World) (hT : w.rowIs tb 75 17 tf) (h4 : tf 4 = .slice (some ⟨ib, 0, none⟩) n icap)
    (hI : w.rowIs ib 112 (icap * 6) F) (hi : i < n) (hn : n ≤ icap) (hn3 : n ≤ 3)
    (f0 : F (i * 6) = .pointer (some ⟨mb, 0, none⟩)) (f1 : F (i * 6 + 1) = .int .i32 (p : Int)) (f2 : F (i * 6 + 2) = .pointer none) (f3 : F (i * 6 + 3) = .int .i32 0) (f4 : F (i * 6 + 4) = .pointer none) (f5 : F (i * 6 + 5) = .int .i32 0)
    (hM : w.rowIs mb 132 5 mf) (m0 : mf 0 = .slice (some ⟨db, 0, none⟩) m dcap) (hp : p < m) (hm : m ≤ dcap) (hD : w.rowIs db 21 dcap g) :
    Calls Ybad.prog 53 #[.pointer (some ⟨tb, 1, none⟩), .int .i64 (i : Int)] w fun e w' => e = .returned (.tuple #[]) ∧ Turn [db] w w' ∧ w'.rowIs db 21 dcap (fun k => if k = p then .int .i32 (i : Int) else g k) := by
  have c4 := hT.cell (i := 4) (by omega)
  rw [h4] at c4
  have d0 := hI.cell (i := i * 6) (by omega)
  have d1 := hI.cell (i := i * 6 + 1) (by omega)
  have d2 := hI.cell (i := i * 6 + 2) (by omega)
  have d3 := hI.cell (i := i * 6 + 3) (by omega)
  have d4 := hI.cell (i := i * 6 + 4) (by omega)
  have d5 := hI.cell (i := i * 6 + 5) (by omega)
  rw [f0] at d0
  rw [f1] at d1
  rw [f2] at d2
  rw [f3] at d3
  rw [f4] at d4
  rw [f5] at d5
  have c0 := hM.cell (i := 0) (by omega)
  rw [m0] at c0
  have XD : Hid (w.rowIs db 21 dcap g) := hD
  have XN : Hid (mb ≠ db) := row_ne hM hD (by decide)
  have XM : Hid (w.rowIs mb 132 5 mf ∧ mf 0 = .slice (some ⟨db, 0, none⟩) m dcap) := ⟨hM, m0⟩
  clear hT hI hM hD f0 f1 f2 f3 f4 f5 h4 m0
  go_enter Ybad.func53, Ybad.ntmps53
  go_wp2
  clear d0 d1 d2 d3 d4 d5 c4 c0
  go_loopw [13] (fun c wr => ∃ k : Nat, k ≤ 3 ∧ c = .int .i64 (k : Int) ∧ Turn [db] w wr ∧ wr.rowIs db 21 dcap (if k = 0 then g else fun k => if k = p then .int .i32 (i : Int) else g k)) (fun c _ => 3 - (intOf c).toNat)
  case atStart => exact ⟨0, by omega, rfl, Turn.refl _ _, XD.out⟩
  case round =>
    obtain ⟨k, hk, rfl, hTu, hR⟩ := hrel
    have cm := (hTu.row XM.out.1 (by simpa using XN.out)).cell (i := 0) (by omega)
    rw [XM.out.2] at cm
    obtain ⟨u, cd⟩ : ∃ u, wr.cell? ⟨db, p, none⟩ = some u := ⟨_, hR.cell (i := p) (by omega)⟩
    have fd := hR.frozen p
    have XR : Hid (wr.rowIs db 21 dcap (if k = 0 then g else fun k => if k = p then .int .i32 (i : Int) else g k) ∧ Turn [db] w wr) := ⟨hR, hTu⟩
    clear hR hTu
    rcases Nat.lt_or_ge k 3 with h3 | h3
    · match k, h3 with
      | 0, _ =>
        have hix := index112_0
        have hdb : db < wr.heap.size := XR.out.1.lt
        have hmb : mb < wr.heap.size := Nat.lt_of_lt_of_le XM.out.1.lt XR.out.2.size
        go_wp2
        go_region
        all_goals go_wp2
        all_goals go_roundw
        case rel => exact ⟨1, by omega, by simp, ((XR.out.2.setCell (p := ⟨db, p, none⟩) (.inl (by simp)) _).alloc _).drew, ((XR.out.1.set p _).alloc _)⟩
        case measure => simp [intOf]
      | 1, _ =>
        have hix := index112_1
        go_wp2
        go_roundw
        case rel => exact ⟨2, by omega, by simp, (XR.out.2.alloc _), ((XR.out.1.alloc _))⟩
        case measure => simp [intOf]
      | 2, _ =>
        have hix := index112_2
        go_wp2
        go_roundw
        case rel => exact ⟨3, by omega, by simp, (XR.out.2.alloc _), ((XR.out.1.alloc _))⟩
        case measure => simp [intOf]
    · obtain rfl : k = 3 := by omega
      go_wp2
      go_end0
      exact ⟨rfl, XR.out.2, XR.out.1⟩

set_option maxHeartbeats 1000000 in
set_option maxRecDepth 100000 in
theorem mremove_any (mb m dcap db p : Nat) (mf g : Nat → Value) (ids : Nat → Nat) (w : World) (hM : w.rowIs mb 132 5 mf) (m0 : mf 0 = .slice (some ⟨db, 0, none⟩) m dcap) (hp : p < m) (hm : m ≤ dcap) (hm3 : m ≤ 3)
    (hD : w.rowIs db 21 dcap g) (hg : ∀ k, k < m → g k = .int .i32 (ids k : Int)) :
    Calls Ybad.prog 44 #[.pointer (some ⟨mb, 0, none⟩), .int .i32 (p : Int)] w fun e w' => e = .returned (.int .i32 (if p = m - 1 then -1 else (ids (m - 1) : Int))) ∧ Turn [mb, db] w w' ∧
      w'.rowIs mb 132 5 (fun k => if k = 0 then .slice (some ⟨db, 0, none⟩) (m - 1) dcap else mf k) ∧ w'.rowIs db 21 dcap (fun k => if k = p then .int .i32 (ids (m - 1) : Int) else g k) := by
  have c0 := hM.cell (i := 0) (by omega)
  rw [m0] at c0
  have n0 := hM.frozen 0
  have cl := hD.cell (i := m - 1) (by omega)
  rw [hg _ (by omega)] at cl
  have cp := hD.cell (i := p) (by omega)
  rw [hg _ hp] at cp
  have np := hD.frozen p
  have hne : mb ≠ db := row_ne hM hD (by decide)
  have XM : Hid (w.rowIs mb 132 5 mf) := hM
  have XD : Hid (w.rowIs db 21 dcap g) := hD
  have XG : Hid (∀ k, k < m → g k = .int .i32 (ids k : Int)) := hg
  obtain ⟨l, rfl⟩ : ∃ l, m = l + 1 := ⟨m - 1, by omega⟩
  simp only [Nat.add_sub_cancel] at cl ⊢
  clear hM hD hg m0
  by_cases hl : p = l
  · subst hl
    go_enter Ybad.func44, Ybad.ntmps44
    go_wp2
    go_ret
    exact ⟨rfl, (Turn.refl _ w).setCell (.inl (by simp)) _, XM.out.set 0 _, (XD.out.setOther (a := ⟨mb, 0, none⟩) hne.symm _).congr (fun k hk => by
      by_cases e : k = p
      · subst e; simp [XG.out k (by omega)]
      · simp [e])⟩
  · have hlt : p < l := by omega
    go_enter Ybad.func44, Ybad.ntmps44
    go_wp2
    go_region
    all_goals go_wp2
    all_goals go_ret
    all_goals exact ⟨rfl, (((Turn.refl _ w).setCell (.inl (by simp)) _).setCell (.inl (by simp)) _).drew, ((XM.out.setOther (a := ⟨db, p, none⟩) hne _).set 0 _).drew, ((XD.out.set p _).setOther (a := ⟨mb, 0, none⟩) hne.symm _).drew⟩

set_option maxHeartbeats 1000000 in
set_option maxRecDepth 100000 in
theorem dropAS_any (tb ab acap mb : Nat) (tf af mf : Nat → Value) (w : World) (hT : w.rowIs tb 75 17 tf) (h6 : tf 6 = .slice (some ⟨ab, 0, none⟩) 1 acap) (hA : w.rowIs ab 109 acap af) (ha : 1 ≤ acap)
    (a0 : af 0 = .pointer (some ⟨mb, 0, none⟩)) (hM : w.rowIs mb 132 5 mf) (m4 : mf 4 = .int .i32 0) :
    Calls Ybad.prog 45 #[.pointer (some ⟨tb, 1, none⟩), .pointer (some ⟨mb, 0, none⟩)] w fun e w' => e = .returned (.tuple #[]) ∧ Turn [tb, ab, mb] w w' ∧
      w'.rowIs tb 75 17 (fun k => if k = 6 then .slice (some ⟨ab, 0, none⟩) 0 acap else tf k) ∧ (∃ af', w'.rowIs ab 109 acap af') ∧ (∃ mf', w'.rowIs mb 132 5 mf') := by
  have c6 := hT.cell (i := 6) (by omega)
  rw [h6] at c6
  have n6 := hT.frozen 6
  have ca := hA.cell (i := 0) (by omega)
  rw [a0] at ca
  have na := hA.frozen 0
  have cm := hM.cell (i := 4) (by omega)
  rw [m4] at cm
  have nm := hM.frozen 4
  have h1 : tb ≠ ab := row_ne hT hA (by decide)
  have h2 : tb ≠ mb := row_ne hT hM (by decide)
  have h3 : ab ≠ mb := row_ne hA hM (by decide)
  have XT : Hid (w.rowIs tb 75 17 tf) := hT
  have XA : Hid (w.rowIs ab 109 acap af) := hA
  have XM : Hid (w.rowIs mb 132 5 mf) := hM
  clear hT hA hM h6 a0 m4
  go_enter Ybad.func45, Ybad.ntmps45
  go_wp2
  go_quiet (fail)
  go_wp2
  go_region
  all_goals go_wp2
  all_goals go_region
  all_goals go_wp2
  all_goals go_end0
  all_goals exact ⟨rfl, ((((Turn.refl _ w).drewN _).setCell (.inl (by simp)) _).setCell (.inl (by simp)) _).setCell (.inl (by simp)) _ |>.drew,
    ((row_drewN XT.out _).setOther (a := ⟨ab, 0, none⟩) h1 _).setOther (a := ⟨mb, 4, none⟩) h2 _ |>.set 6 _ |>.drew,
    ⟨_, (((row_drewN XA.out _).set 0 _).setOther (a := ⟨mb, 4, none⟩) h3 _).setOther (a := ⟨tb, 6, none⟩) h1.symm _ |>.drew⟩,
    ⟨_, (((row_drewN XM.out _).setOther (a := ⟨ab, 0, none⟩) h3.symm _).set 4 _).setOther (a := ⟨tb, 6, none⟩) h2.symm _ |>.drew⟩⟩

end Go.Proofs.YbulkbdskDoor
