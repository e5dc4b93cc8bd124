/-
  (*torrent).swap.
-/
import Derived.Test.YbulkbdskDoorTor
import Derived.Test.YbulkbdskDoorSwap
import Derived.StillTailTactics
namespace Go.Proofs.YbulkbdskDoor
open Go Go.RowKit

abbrev TY : List TypeId := [77, 75, 132, 21, 112, 109, 92, 36, 4]

theorem frY {lo : Nat} {w w' : World} (h : Fr (lo + 4) TX w w') : Fr lo TY w w' := h.mono (by omega) (fun _ ht => List.mem_cons_of_mem _ ht)

theorem index134_0 (a b : Value) (W : World) : (Instr.index 134 (.agg #[a, b]) (.int .i64 0)).run Ybad.prog W = .ok a W := by kernel_rfl
theorem index134_1 (a b : Value) (W : World) : (Instr.index 134 (.agg #[a, b]) (.int .i64 1)).run Ybad.prog W = .ok b W := by kernel_rfl

def put1 (f : Nat → Option Int) (a : Nat) (v : Int) : Nat → Option Int := fun x => if x = a then some v else f x
def sw (pf : Nat → Peer) (i j : Nat) : Nat → Peer := fun k => if k = j then pf i else if k = i then pf j else pf k

theorem loadv_id {w : World} {b o : Nat} {p : Peer} (h : ∀ k, k < 61 → w.cell? ⟨b, o + k, none⟩ = some (pcell p k)) : (loadVar 50 ⟨b, o, none⟩).run Ybad.prog w = .ok (idV p.id) w :=
  run_loadVar_mid w b o 50 (idA p.id).toList _ (id_range h) Ybad.underlying50 rfl size50
theorem ep_range {w : World} {b o : Nat} {p : Peer} (h : ∀ k, k < 61 → w.cell? ⟨b, o + k, none⟩ = some (pcell p k)) : w.rangeAt b (o + 52) [.int .u64 0, .int .u64 0, .pointer none, .int .u16 (p.port : Int)] := fun j v hv => by
  have hj : j < 4 := (List.getElem?_eq_some_iff.1 hv).1
  have := h (52 + j) (by omega)
  rw [← Nat.add_assoc] at this
  rw [this, ← hv]
  obtain rfl | rfl | rfl | rfl : j = 0 ∨ j = 1 ∨ j = 2 ∨ j = 3 := by omega
  all_goals rfl
theorem loadv_ep {w : World} {b o : Nat} {p : Peer} (h : ∀ k, k < 61 → w.cell? ⟨b, o + k, none⟩ = some (pcell p k)) : (loadVar 48 ⟨b, o + 52, none⟩).run Ybad.prog w = .ok (epV p.port) w :=
  run_loadVar_mid w b (o + 52) 48 [.int .u64 0, .int .u64 0, .pointer none, .int .u16 (p.port : Int)] _ (ep_range h) Ybad.underlying48 rfl size48

theorem tput {g n nx c dl nb ns ni ne x : Nat} {tf : Nat → Value} {pf : Nat → Peer} {fi fe : Nat → Option Int} {w : World} (h : Tor w g tf pf n nx c dl nb ns fi fe ni ne) (hx : x < n) (h1 : (fi (pf x).id).isSome) (h2 : (fe (pf x).port).isSome) :
    ∃ pb cap W1 W2, (n ≤ cap ∧ w.cell? ⟨g + 4, 0, none⟩ = some (.slice (some ⟨pb, 0, none⟩) n cap) ∧ w.cell? ⟨g + 4, 8, none⟩ = some (.map (some (g + 1))) ∧
      (loadVar 50 ⟨pb, x * 61, none⟩).run Ybad.prog w.drew = .ok (idV (pf x).id) w.drew ∧ (Instr.mapUpdate 71 (.map (some (g + 1))) (idV (pf x).id) (.int .i64 (x : Int))).run Ybad.prog w.drew = .ok () W1) ∧
      (W1.cell? ⟨g + 4, 0, none⟩ = some (.slice (some ⟨pb, 0, none⟩) n cap) ∧ W1.cell? ⟨g + 4, 9, none⟩ = some (.map (some (g + 2))) ∧
      (loadVar 48 ⟨pb, x * 61 + 52, none⟩).run Ybad.prog W1.drew = .ok (epV (pf x).port) W1.drew ∧ (Instr.mapUpdate 72 (.map (some (g + 2))) (epV (pf x).port) (.int .i64 (x : Int))).run Ybad.prog W1.drew = .ok () W2) ∧
      Fr g TY w W2 ∧ Tor W2 g tf pf n nx c dl nb ns (put1 fi (pf x).id x) (put1 fe (pf x).port x) ni ne := by
  obtain ⟨pb, cap, F, S⟩ := h.ps.slot (by omega)
  obtain ⟨o1, o2, _⟩ := h.ok x hx
  obtain ⟨W1, e1, t1, m1⟩ := (h.mi.turn ((Turn.refl [] w).drew) (by simp)).put ids_ok Ybad.underlying71 o1 (x : Int)
  rw [if_pos h1] at m1
  have t1' : Turn [g + 1] w W1 := ((Turn.refl [g + 1] w).drew).trans t1
  have hpb : ∀ k, k < g + 4 → pb ≠ k := fun k hk => by have := S.above; omega
  have T1 := h.maps t1' (by simp) m1 (h.me.turn t1' (by simp)) (h.mb.turn t1' (by simp)) (h.ms.turn t1' (by simp))
  have S1 : Slot W1 (g + 4) (tf 0) n pb cap F pf := S.of (t1'.row S.row (by simpa using hpb _ (by omega)))
  obtain ⟨W2, e2, t2, m2⟩ := (T1.me.turn ((Turn.refl [] W1).drew) (by simp)).put eps_ok Ybad.underlying72 o2 (x : Int)
  rw [if_pos h2] at m2
  have t2' : Turn [g + 2] W1 W2 := ((Turn.refl [g + 2] W1).drew).trans t2
  have T2 := T1.maps t2' (by simp) (T1.mi.turn t2' (by simp)) m2 (T1.mb.turn t2' (by simp)) (T1.ms.turn t2' (by simp))
  have tt : Turn [g + 1, g + 2] w W2 := (t1'.mono (by simp)).trans (t2'.mono (by simp))
  have c0 : ∀ V : World, V.rowIs (g + 4) 75 17 tf → V.cell? ⟨g + 4, 0, none⟩ = some (.slice (some ⟨pb, 0, none⟩) n cap) ∧ V.cell? ⟨g + 4, 8, none⟩ = some (.map (some (g + 1))) ∧ V.cell? ⟨g + 4, 9, none⟩ = some (.map (some (g + 2))) := fun V hV =>
    ⟨by rw [hV.cell (by omega), S.val], by rw [hV.cell (by omega), h.t8], by rw [hV.cell (by omega), h.t9]⟩
  refine ⟨pb, cap, W1, W2, ⟨S.room, (c0 w h.row).1, (c0 w h.row).2.1, loadv_id (fun k hk => (S.of S.row.drew).cell hx hk), e1⟩, ⟨(c0 W1 T1.row).1, (c0 W1 T1.row).2.2, loadv_ep (fun k hk => (S1.of S1.row.drew).cell hx hk), e2⟩, ?_, T2⟩
  refine Fr.ofTurn tt (fun k hk => by simp at hk; omega) (fun k hk c t fr hc => ?_)
  simp at hk
  rcases hk with rfl | rfl
  · obtain ⟨_, _, hm, _⟩ := h.mi
    rw [hm] at hc
    cases hc
  · obtain ⟨_, _, hm, _⟩ := h.me
    rw [hm] at hc
    cases hc

set_option maxHeartbeats 1000000 in
set_option maxRecDepth 100000 in
theorem tswap_same (x : Addr) (i : Int) (w : World) :
    Calls Ybad.prog 26 #[.pointer (some x), .int .i64 i, .int .i64 i] w fun e w' => e = .returned (.tuple #[]) ∧ w' = w := by
  go_enter Ybad.func26, Ybad.ntmps26
  go_wp2
  exact bodyPost_ret (results_none rfl _ _ _) rfl ⟨rfl, rfl⟩

set_option maxHeartbeats 1000000 in
set_option maxRecDepth 100000 in
theorem tswap_any (g i j n c dl nb ns : Nat) (tf : Nat → Value) (pf : Nat → Peer) (fi fe : Nat → Option Int) (ni ne : Nat) (w : World) (h : Tor w g tf pf n n c dl nb ns fi fe ni ne) (hi : i < n) (hj : j < n) (hij : i ≠ j)
    (h1 : (fi (pf i).id).isSome ∧ (fi (pf j).id).isSome ∧ (fe (pf i).port).isSome ∧ (fe (pf j).port).isSome) :
    Calls Ybad.prog 26 #[.pointer (some ⟨g + 4, 0, none⟩), .int .i64 (i : Int), .int .i64 (j : Int)] w fun e w' => e = .returned (.tuple #[]) ∧ Fr g TY w w' ∧
      Tor w' g tf (sw pf i j) n n c dl nb ns (put1 (put1 fi (pf j).id i) (pf i).id j) (put1 (put1 fe (pf j).port i) (pf i).port j) ni ne := by
  obtain ⟨pb, cap, F, S⟩ := h.ps.slot (by omega)
  have c0 := h.row.cell (i := 0) (by omega)
  rw [S.val] at c0
  have hcap := S.room
  have hn3 := h.small
  have XH : Hid (Tor w g tf pf n n c dl nb ns fi fe ni ne ∧ Slot w (g + 4) (tf 0) n pb cap F pf ∧ ((fi (pf i).id).isSome ∧ (fi (pf j).id).isSome ∧ (fe (pf i).port).isSome ∧ (fe (pf j).port).isSome)) := ⟨h, S, h1⟩
  have S1 := Slot.put (w := w.drew) (S.of S.row.drew) hi (pf j)
  have S2 := S1.put hj (pf i)
  have XL : Hid ((loadVar 77 ⟨pb, j * 61, none⟩).run Ybad.prog w.drew = .ok (.agg (pcs (pf j)).toArray) w.drew ∧ (loadVar 77 ⟨pb, i * 61, none⟩).run Ybad.prog w.drew = .ok (.agg (pcs (pf i)).toArray) w.drew ∧
      (storeVar 77 ⟨pb, i * 61, none⟩ (.agg (pcs (pf j)).toArray)).run Ybad.prog w.drew = .ok () (w.drew.setCells pb (i * 61) (pcs (pf j))) ∧
      (storeVar 77 ⟨pb, j * 61, none⟩ (.agg (pcs (pf i)).toArray)).run Ybad.prog (w.drew.setCells pb (i * 61) (pcs (pf j))) = .ok () ((w.drew.setCells pb (i * 61) (pcs (pf j))).setCells pb (j * 61) (pcs (pf i)))) := by
    have S0 : Slot w.drew (g + 4) (tf 0) n pb cap F pf := S.of S.row.drew
    refine ⟨run_loadVar_mid _ _ _ _ _ _ (S0.range hj) Ybad.underlying77 rfl (by rw [pcs_length]; exact size77), run_loadVar_mid _ _ _ _ _ _ (S0.range hi) Ybad.underlying77 rfl (by rw [pcs_length]; exact size77), ?_, ?_⟩
    · exact run_storeVar_mid _ _ _ _ _ (by rw [List.size_toArray, pcs_length]; exact S0.there hi) (by rw [List.size_toArray, pcs_length]; exact size77) (pcs_one _)
    · exact run_storeVar_mid _ _ _ _ _ (by rw [List.size_toArray, pcs_length]; exact S1.there hj) (by rw [List.size_toArray, pcs_length]; exact size77) (pcs_one _)
  have X2 : Hid (Tor ((w.drew.setCells pb (i * 61) (pcs (pf j))).setCells pb (j * 61) (pcs (pf i))) g tf (sw pf i j) n n c dl nb ns fi fe ni ne ∧ Fr g TY w ((w.drew.setCells pb (i * 61) (pcs (pf j))).setCells pb (j * 61) (pcs (pf i)))) := by
    have hT : Turn [pb] w ((w.drew.setCells pb (i * 61) (pcs (pf j))).setCells pb (j * 61) (pcs (pf i))) := (((Turn.refl [pb] w).drew).setCells (.inl (by simp))).setCells (.inl (by simp))
    obtain ⟨cc, hcc, _⟩ := S.row
    refine ⟨h.peers hT (fun k hk => by simp at hk; subst hk; exact ⟨cc, _, hcc⟩) S2.sl (fun k hk => ?_) (by have := S.above; have := h.lo; simp; omega), Fr.ofTurn hT (by have := S.above; simp; omega) (fun k hk c t fr hc => by simp at hk; subst hk; rw [hcc] at hc; cases hc; simp)⟩
    unfold sw
    by_cases e1 : k = j
    · rw [if_pos e1]; exact h.ok i hi
    · rw [if_neg e1]
      by_cases e2 : k = i
      · rw [if_pos e2]; exact h.ok j hj
      · rw [if_neg e2]; exact h.ok k hk
  clear h h1 S S1 S2
  go_enter Ybad.func26, Ybad.ntmps26
  go_upto_region 1 with fail
  refine wp_region_exch 24 9 (fun _ => True) (v := .int .i64 (j : Int)) mixed rfl (by kernel_rfl) rfl (fun _ _ _ h => h) (.inl ⟨rfl, fun w' hS => by go_simp⟩) trivial ?_
  simp only [List.take_succ_cons, List.take_zero, List.eraseIdx_cons_succ, List.eraseIdx_cons_zero]
  iterate 15 still_step
  refine wpStill_value 27 rfl rfl (exec_load rfl rfl XL.out.1) ?_
  go_frame
  iterate 6 still_step
  refine wpStill_value 34 rfl rfl (exec_load rfl rfl XL.out.2.1) ?_
  go_frame
  refine wpStill_nil ?_
  unfold tail4
  refine wpOp_value 35 (w' := w.drew) (v := .pointer (some ⟨pb, i * 61, none⟩)) rfl rfl rfl (by go_simp) ⟨trivial, ?_⟩
  refine wpOp_skip (w' := w.drew.setCells pb (i * 61) (pcs (pf j))) rfl rfl rfl (exec_store rfl rfl rfl XL.out.2.2.1) ⟨trivial, ?_⟩
  refine wpOp_value 36 (w' := w.drew.setCells pb (i * 61) (pcs (pf j))) (v := .pointer (some ⟨pb, j * 61, none⟩)) rfl rfl rfl (by go_simp) ⟨trivial, ?_⟩
  refine wpOp_skip (w' := (w.drew.setCells pb (i * 61) (pcs (pf j))).setCells pb (j * 61) (pcs (pf i))) rfl rfl rfl (exec_store rfl rfl rfl XL.out.2.2.2) ⟨trivial, ?_⟩
  go_frame
  refine q_world ?_
  intro V hV
  have XV : Hid (Tor V g tf (sw pf i j) n n c dl nb ns fi fe ni ne ∧ Fr g TY w V) := by rw [hV]; exact X2.out
  have X39 : Hid (Calls Ybad.prog 39 #[.pointer (some ⟨g + 4, 1, none⟩), .int .i64 (i : Int), .int .i64 (j : Int)] V fun e w' => e = .returned (.tuple #[]) ∧ Hid (Fr g TY w w' ∧ Tor w' g tf (sw pf i j) n n c dl nb ns fi fe ni ne)) :=
    (swap_any (g + 4) i j n tf V XV.out.1.ix hi hj hij).mono fun e w' ⟨h1, h2, h3⟩ => ⟨h1, XV.out.2.trans (frY h2), XV.out.1.index h2 h3 (fun _ _ => rfl)⟩
  clear hV X2 XL c0 hcap
  go_wp2_with (go_at_call 39; refine X39.out.mono ?_; rintro e w3 ⟨rfl, H3⟩)
  go_loopw [46] (fun m wr => ∃ k : Nat, k ≤ 2 ∧ m = .int .i64 (k : Int) ∧ Fr g TY w wr ∧ Tor wr g tf (sw pf i j) n n c dl nb ns (if k = 0 then fi else if k = 1 then put1 fi (pf j).id i else put1 (put1 fi (pf j).id i) (pf i).id j) (if k = 0 then fe else if k = 1 then put1 fe (pf j).port i else put1 (put1 fe (pf j).port i) (pf i).port j) ni ne) (fun m _ => 2 - (intOf m).toNat)
  case atStart => exact ⟨0, by omega, rfl, H3.out.1, H3.out.2⟩
  case round =>
    obtain ⟨k, hk, rfl, hF, hT⟩ := hrel
    rcases Nat.lt_or_ge k 2 with h3 | h3
    · match k, h3 with
      | 0, _ =>
        rw [if_pos rfl, if_pos rfl] at hT
        have hx := index134_0
        have e0 : sw pf i j i = pf j := by unfold sw; rw [if_neg hij, if_pos rfl]
        obtain ⟨pb', cap', W1, W2, ⟨a1, a2, a3, a4, a5⟩, ⟨a6, a7, a8, a9⟩, hF2, hT2⟩ := tput hT hi (by rw [e0]; exact XH.out.2.2.2.1) (by rw [e0]; exact XH.out.2.2.2.2.2)
        rw [e0] at a4 a5 a8 a9 hT2
        have XR : Hid (Fr g TY w W2 ∧ Tor W2 g tf (sw pf i j) n n c dl nb ns (put1 fi (pf j).id i) (put1 fe (pf j).port i) ni ne) := ⟨hF.trans hF2, hT2⟩
        clear e0
        have XA : Hid _ := a4
        have XB : Hid _ := a5
        have XC : Hid _ := a8
        have XD : Hid _ := a9
        clear hF hT hF2 hT2 a4 a5 a8 a9
        go_upto_region 6 with fail
        refine wp_region_still_tail 13 mixed (by kernel_rfl) ?_
        simp only [List.take_succ_cons, List.take_zero, List.drop_succ_cons, List.drop_zero]
        iterate 11 still_step
        refine wpStill_value 60 rfl rfl (exec_load rfl rfl XA.out) ?_
        go_frame
        still_step
        refine wpStill_nil ?_
        refine wpList_mapUpdate_raw rfl (.tmp 52) (.tmp 60) (.tmp 61) 71 rfl _ _ _ _ rfl rfl rfl XB.out ?_
        go_upto_region 7 with fail
        refine wp_region_still_tail 13 mixed (by kernel_rfl) ?_
        simp only [List.take_succ_cons, List.take_zero, List.drop_succ_cons, List.drop_zero]
        iterate 11 still_step
        refine wpStill_value 73 rfl rfl (exec_load rfl rfl XC.out) ?_
        go_frame
        still_step
        refine wpStill_nil ?_
        refine wpList_mapUpdate_raw rfl (.tmp 65) (.tmp 73) (.tmp 74) 72 rfl _ _ _ _ rfl rfl rfl XD.out ?_
        go_wp2
        go_roundw
        case rel => exact ⟨1, by omega, rfl, XR.out.1, XR.out.2⟩
        case measure => simp [intOf]
      | 1, _ =>
        rw [if_neg (by omega), if_pos rfl, if_neg (by omega), if_pos rfl] at hT
        have hx := index134_1
        have e0 : sw pf i j j = pf i := by unfold sw; rw [if_pos rfl]
        obtain ⟨pb', cap', W1, W2, ⟨a1, a2, a3, a4, a5⟩, ⟨a6, a7, a8, a9⟩, hF2, hT2⟩ := tput hT hj (by rw [e0]; unfold put1; split; rfl; exact XH.out.2.2.1) (by rw [e0]; unfold put1; split; rfl; exact XH.out.2.2.2.2.1)
        rw [e0] at a4 a5 a8 a9 hT2
        have XR : Hid (Fr g TY w W2 ∧ Tor W2 g tf (sw pf i j) n n c dl nb ns (put1 (put1 fi (pf j).id i) (pf i).id j) (put1 (put1 fe (pf j).port i) (pf i).port j) ni ne) := ⟨hF.trans hF2, hT2⟩
        clear e0
        have XA : Hid _ := a4
        have XB : Hid _ := a5
        have XC : Hid _ := a8
        have XD : Hid _ := a9
        clear hF hT hF2 hT2 a4 a5 a8 a9
        go_upto_region 6 with fail
        refine wp_region_still_tail 13 mixed (by kernel_rfl) ?_
        simp only [List.take_succ_cons, List.take_zero, List.drop_succ_cons, List.drop_zero]
        iterate 11 still_step
        refine wpStill_value 60 rfl rfl (exec_load rfl rfl XA.out) ?_
        go_frame
        still_step
        refine wpStill_nil ?_
        refine wpList_mapUpdate_raw rfl (.tmp 52) (.tmp 60) (.tmp 61) 71 rfl _ _ _ _ rfl rfl rfl XB.out ?_
        go_upto_region 7 with fail
        refine wp_region_still_tail 13 mixed (by kernel_rfl) ?_
        simp only [List.take_succ_cons, List.take_zero, List.drop_succ_cons, List.drop_zero]
        iterate 11 still_step
        refine wpStill_value 73 rfl rfl (exec_load rfl rfl XC.out) ?_
        go_frame
        still_step
        refine wpStill_nil ?_
        refine wpList_mapUpdate_raw rfl (.tmp 65) (.tmp 73) (.tmp 74) 72 rfl _ _ _ _ rfl rfl rfl XD.out ?_
        go_wp2
        go_roundw
        case rel => exact ⟨2, by omega, rfl, XR.out.1, XR.out.2⟩
        case measure => simp [intOf]
    · obtain rfl : k = 2 := by omega
      rw [if_neg (by omega), if_neg (by omega), if_neg (by omega), if_neg (by omega)] at hT
      go_wp2
      go_end0
      exact ⟨rfl, hF, hT⟩
end Go.Proofs.YbulkbdskDoor
