/-
  (*Index).Swap.
-/
import Derived.Test.YbulkbdskDoorSwapped
import Derived.Test.YbulkbdskDoorLeave
import Derived.Test.YbulkbdskDoorExch
namespace Go.Proofs.YbulkbdskDoor
open Go Go.RowKit

set_option maxHeartbeats 1000000 in
set_option maxRecDepth 100000 in
theorem swap_same (x : Addr) (i : Int) (w : World) :
    Calls Ybad.prog 39 #[.pointer (some x), .int .i64 i, .int .i64 i] w fun e w' => e = .returned (.tuple #[]) ∧ Turn [] w w' := by
  go_enter Ybad.func39, Ybad.ntmps39
  go_wp2
  exact bodyPost_ret (results_none rfl _ _ _) rfl ⟨rfl, ((Turn.refl [] w).alloc _).alloc _⟩

theorem size112 : (Ybad.prog.info? 112).map (·.size) = some 6 := by kernel_rfl
theorem mixed : Ybad.prog.follows .mixedOrders = true := by kernel_rfl

theorem leaves_marks2 {F : Fence} {k : Nat} {P : Program} {fn : Func} {tmps : Array Value} {R : Ending → World → Prop} {w : World} {D E : Nat} (hD : w.heap[D]? = some (.deferred (some []))) (hE : w.heap[E]? = some (.deferred (some []))) (hne : E ≠ D) (hr : fn.results = #[])
    (hR : R (.returned (.tuple #[])) ((w.putObj D (.deferred none)).putObj E (.deferred none))) : LeavesInM F k P fn tmps R [{ target := .collected D, args := #[] }, { target := .collected E, args := #[] }] .returning w :=
  ⟨by simp, .inl ⟨_, _, rfl, run_takeDeferred hD, leaves_mark ((World.putObj_heap_other hne).trans hE) hr hR⟩⟩

set_option maxHeartbeats 1000000 in
set_option maxRecDepth 100000 in
theorem swap_any (tb i j n : Nat) (tf : Nat → Value) (w : World) (h : IxA w tb tf n) (hi : i < n) (hj : j < n) (hij : i ≠ j) :
    Calls Ybad.prog 39 #[.pointer (some ⟨tb, 1, none⟩), .int .i64 (i : Int), .int .i64 (j : Int)] w fun e w' => e = .returned (.tuple #[]) ∧ Fr tb TX w w' ∧ IxA w' tb tf n := by
  obtain ⟨ids, pos, mb, hx, ha⟩ := h
  obtain ⟨p, hp⟩ := Option.ne_none_iff_exists'.1 (ha i hi)
  obtain ⟨q, hq⟩ := Option.ne_none_iff_exists'.1 (ha j hj)
  have hn3 := hx.small
  have XI : Hid (Ix w tb tf n n ids pos mb ∧ pos i = some p ∧ pos j = some q ∧ ∀ i, i < n → pos i ≠ none) := ⟨hx, hp, hq, ha⟩
  have X41 : Hid (∀ (a : Nat) W, Calls Ybad.prog 41 #[.pointer (some ⟨tb, 1, none⟩), .int .i64 (a : Int)] W fun e w' => e = .returned (.func (.func 55) #[] #[.pointer (some ⟨W.heap.size, 0, none⟩), .pointer (some ⟨W.heap.size + 1, 0, none⟩)]) ∧ (W.alloc (.cells #[.pointer (some ⟨tb, 1, none⟩)] 108)).alloc (.cells #[.int .i64 (a : Int)] 3) = w') := fun a W => (rings_any ⟨tb, 1, none⟩ a W).mono fun e w' h => ⟨h.1, h.2.symm⟩
  clear hx hp hq ha
  refine calls_of_wp_marks Ybad.func39 rfl ?_
  simp only [Ybad.ntmps39, List.size_toArray, List.length_cons, List.length_nil, Nat.reduceAdd, Nat.reduceSub, Array.replicate_succ, Array.replicate_zero, List.push_toArray, List.append_toArray, List.nil_append, List.cons_append]
  go_wp2_with (go_at_call 41; refine (X41.out i _).mono ?_; rintro e w' ⟨rfl, rfl⟩)
  obtain ⟨Wb, hWb⟩ : ∃ Wb, (w.alloc (.cells #[.int .i64 (i : Int)] 3)).alloc (.cells #[.int .i64 (j : Int)] 3) = Wb := ⟨_, rfl⟩
  have hTb : Turn [] w Wb := by rw [← hWb]; exact ((Turn.refl [] w).alloc _).alloc _
  have hbi : Wb.rowIs w.heap.size 3 1 (fun k => (#[Value.int .i64 (i : Int)][k]?).getD undef) := by rw [← hWb]; exact (row_new w _ 3).alloc _
  have hbj : Wb.rowIs (w.heap.size + 1) 3 1 (fun k => (#[Value.int .i64 (j : Int)][k]?).getD undef) := by
    have := row_new (w.alloc (.cells #[.int .i64 (i : Int)] 3)) #[.int .i64 (j : Int)] 3
    rw [hWb, World.size_alloc] at this
    exact this
  simp only [hWb]
  have hsz : w.heap.size + 2 = Wb.heap.size := by rw [← hWb]; simp
  simp only [hsz]
  refine wp_rangeFunc_none rfl enters55 (fun W y hW => rings_hit (hTb.row XI.out.1.row (by simp)) XI.out.1.byKey y hW) ?_
  intro W1 hW1 hD1
  have hT1 : Turn [] Wb W1 := (((Turn.refl [] Wb).alloc _).alloc _).trans (Turn.ofBelow hW1)
  obtain ⟨D, hD⟩ : ∃ D, D = ((Wb.alloc (.cells #[.pointer (some ⟨tb, 1, none⟩)] 108)).alloc (.cells #[.int .i64 (i : Int)] 3)).heap.size := ⟨_, rfl⟩
  have hDw : Hid (w.heap.size ≤ D) := by show w.heap.size ≤ D; rw [hD]; simp; omega
  rw [← hD] at hD1 ⊢
  have ci := (hT1.row hbi (by simp)).cell (i := 0) (by omega)
  have cj := (hT1.row hbj (by simp)).cell (i := 0) (by omega)
  simp only [List.getElem?_toArray, List.getElem?_cons_zero, Option.getD_some] at ci cj
  have X1 : Hid (Turn [] w W1 ∧ W1.heap[D]? = some (.deferred (some [])) ∧ W1.rowIs w.heap.size 3 1 (fun k => (#[Value.int .i64 (i : Int)][k]?).getD undef) ∧ W1.rowIs (w.heap.size + 1) 3 1 (fun k => (#[Value.int .i64 (j : Int)][k]?).getD undef)) := ⟨hTb.trans hT1, hD1, hT1.row hbi (by simp), hT1.row hbj (by simp)⟩
  clear hW1 hD1 hT1 hD hTb hbi hbj hWb hsz
  go_frame
  go_wp2_with (go_at_call 41; refine (X41.out j _).mono ?_; rintro e w' ⟨rfl, rfl⟩)
  refine wp_rangeFunc_none rfl enters55 (fun W y hW => rings_hit (X1.out.1.row XI.out.1.row (by simp)) XI.out.1.byKey y hW) ?_
  intro W2 hW2 hD2
  have hT2 : Turn [] W1 W2 := (((Turn.refl [] W1).alloc _).alloc _).trans (Turn.ofBelow hW2)
  obtain ⟨E, hE⟩ : ∃ E, E = ((W1.alloc (.cells #[.pointer (some ⟨tb, 1, none⟩)] 108)).alloc (.cells #[.int .i64 (j : Int)] 3)).heap.size := ⟨_, rfl⟩
  have hEw : Hid (w.heap.size ≤ E ∧ D < E) := by
    have h1 := X1.out.1.size
    have h2 := (Array.getElem?_eq_some_iff.1 X1.out.2.1).1
    show w.heap.size ≤ E ∧ D < E
    rw [hE]
    simp
    omega
  rw [← hE] at hD2 ⊢
  have X2 : Hid (Turn [] w W2 ∧ W2.heap[D]? = some (.deferred (some [])) ∧ W2.heap[E]? = some (.deferred (some [])) ∧ W2.rowIs w.heap.size 3 1 (fun k => (#[Value.int .i64 (i : Int)][k]?).getD undef) ∧ W2.rowIs (w.heap.size + 1) 3 1 (fun k => (#[Value.int .i64 (j : Int)][k]?).getD undef)) :=
    ⟨X1.out.1.trans hT2, hT2.obj X1.out.2.1 (by simp), hD2, hT2.row X1.out.2.2.1 (by simp), hT2.row X1.out.2.2.2 (by simp)⟩
  clear hW2 hD2 hT2 hE ci cj X1 X41
  go_frame
  have hx2 := XI.out.1.turn X2.out.1 (by simp)
  obtain ⟨pb, pcap, P1, hpv, hptb, hpcap, hpmax, hpR, hpF⟩ := hx2.places.pos (by omega)
  have ci := X2.out.2.2.2.1.cell (i := 0) (by omega)
  have cj := X2.out.2.2.2.2.cell (i := 0) (by omega)
  simp only [List.getElem?_toArray, List.getElem?_cons_zero, Option.getD_some] at ci cj
  have c1 := hx2.row.cell (i := 1) (by omega)
  rw [hpv] at c1
  have hc : ∀ a, a < n → ∀ k, k < 9 → W2.cell? ⟨pb, a * 9 + k, none⟩ = some (zp k) := fun a ha k hk => by
    rw [hpR.cell (by omega), hpF _ (by omega)]
    congr 2
    omega
  have hf : ∀ a, a < n → ∀ k, k < 9 → W2.frozen? ⟨pb, a * 9 + k, none⟩ = false := fun a _ k _ => hpR.frozen _
  have hs : ∀ a, a < n → ∀ k, k < 9 → W2.setCell ⟨pb, a * 9 + k, none⟩ (zp k) = W2 := fun a ha k hk => setCell_id (hc a ha k hk)
  have d0 := hc i hi 0 (by omega)
  have df0 := hf i hi 0 (by omega)
  have ds0 := hs i hi 0 (by omega)
  have d1 := hc i hi 1 (by omega)
  have df1 := hf i hi 1 (by omega)
  have ds1 := hs i hi 1 (by omega)
  have d2 := hc i hi 2 (by omega)
  have df2 := hf i hi 2 (by omega)
  have ds2 := hs i hi 2 (by omega)
  have d3 := hc i hi 3 (by omega)
  have df3 := hf i hi 3 (by omega)
  have ds3 := hs i hi 3 (by omega)
  have d4 := hc i hi 4 (by omega)
  have df4 := hf i hi 4 (by omega)
  have ds4 := hs i hi 4 (by omega)
  have d5 := hc i hi 5 (by omega)
  have df5 := hf i hi 5 (by omega)
  have ds5 := hs i hi 5 (by omega)
  have d6 := hc i hi 6 (by omega)
  have df6 := hf i hi 6 (by omega)
  have ds6 := hs i hi 6 (by omega)
  have d7 := hc i hi 7 (by omega)
  have df7 := hf i hi 7 (by omega)
  have ds7 := hs i hi 7 (by omega)
  have d8 := hc i hi 8 (by omega)
  have df8 := hf i hi 8 (by omega)
  have ds8 := hs i hi 8 (by omega)
  have e0 := hc j hj 0 (by omega)
  have ef0 := hf j hj 0 (by omega)
  have es0 := hs j hj 0 (by omega)
  have e1 := hc j hj 1 (by omega)
  have ef1 := hf j hj 1 (by omega)
  have es1 := hs j hj 1 (by omega)
  have e2 := hc j hj 2 (by omega)
  have ef2 := hf j hj 2 (by omega)
  have es2 := hs j hj 2 (by omega)
  have e3 := hc j hj 3 (by omega)
  have ef3 := hf j hj 3 (by omega)
  have es3 := hs j hj 3 (by omega)
  have e4 := hc j hj 4 (by omega)
  have ef4 := hf j hj 4 (by omega)
  have es4 := hs j hj 4 (by omega)
  have e5 := hc j hj 5 (by omega)
  have ef5 := hf j hj 5 (by omega)
  have es5 := hs j hj 5 (by omega)
  have e6 := hc j hj 6 (by omega)
  have ef6 := hf j hj 6 (by omega)
  have es6 := hs j hj 6 (by omega)
  have e7 := hc j hj 7 (by omega)
  have ef7 := hf j hj 7 (by omega)
  have es7 := hs j hj 7 (by omega)
  have e8 := hc j hj 8 (by omega)
  have ef8 := hf j hj 8 (by omega)
  have es8 := hs j hj 8 (by omega)
  simp only [Nat.add_zero, zp] at d0 d1 d2 d3 d4 d5 d6 d7 d8 df0 df1 df2 df3 df4 df5 df6 df7 df8 ds0 ds1 ds2 ds3 ds4 ds5 ds6 ds7 ds8 e0 e1 e2 e3 e4 e5 e6 e7 e8 ef0 ef1 ef2 ef3 ef4 ef5 ef6 ef7 ef8 es0 es1 es2 es3 es4 es5 es6 es7 es8
  have g1 : tb ≠ pb := row_ne hx2.row hpR (by decide)
  have g2 : w.heap.size ≠ pb := row_ne X2.out.2.2.2.1 hpR (by decide)
  have g3 : w.heap.size + 1 ≠ pb := row_ne X2.out.2.2.2.2 hpR (by decide)
  clear hc hf hs hpF hpR hx2 hpv
  go_wp2
  refine wp_only ?_
  go_region_held3 (fun w' => w'.cell? ⟨tb, 1, none⟩ = some (.slice (some ⟨pb, 0, none⟩) n pcap) ∧ w'.cell? ⟨w.heap.size, 0, none⟩ = some (.int .i64 (i : Int)) ∧ w'.cell? ⟨w.heap.size + 1, 0, none⟩ = some (.int .i64 (j : Int)) ∧ w'.cell? ⟨pb, i * 9, none⟩ = some (.int .u64 0) ∧ w'.cell? ⟨pb, i * 9 + 1, none⟩ = some (.int .u64 0) ∧ w'.cell? ⟨pb, i * 9 + 2, none⟩ = some (.pointer none) ∧ w'.cell? ⟨pb, i * 9 + 3, none⟩ = some (.int .u8 0) ∧ w'.cell? ⟨pb, i * 9 + 4, none⟩ = some (.int .u32 0) ∧ w'.cell? ⟨pb, i * 9 + 5, none⟩ = some (.string ⟨#[]⟩) ∧ w'.cell? ⟨pb, i * 9 + 6, none⟩ = some (.string ⟨#[]⟩) ∧ w'.cell? ⟨pb, i * 9 + 7, none⟩ = some (.string ⟨#[]⟩) ∧ w'.cell? ⟨pb, i * 9 + 8, none⟩ = some (.int .u8 0) ∧ w'.cell? ⟨pb, j * 9, none⟩ = some (.int .u64 0) ∧ w'.cell? ⟨pb, j * 9 + 1, none⟩ = some (.int .u64 0) ∧ w'.cell? ⟨pb, j * 9 + 2, none⟩ = some (.pointer none) ∧ w'.cell? ⟨pb, j * 9 + 3, none⟩ = some (.int .u8 0) ∧ w'.cell? ⟨pb, j * 9 + 4, none⟩ = some (.int .u32 0) ∧ w'.cell? ⟨pb, j * 9 + 5, none⟩ = some (.string ⟨#[]⟩) ∧ w'.cell? ⟨pb, j * 9 + 6, none⟩ = some (.string ⟨#[]⟩) ∧ w'.cell? ⟨pb, j * 9 + 7, none⟩ = some (.string ⟨#[]⟩) ∧ w'.cell? ⟨pb, j * 9 + 8, none⟩ = some (.int .u8 0)) (simp [*, go_sem]) (fail)
  refine then_only ?_
  refine q_world ?_
  intro W3 hW3
  have X3 : Hid (Turn [] W2 W3) := by rw [hW3]; exact (Turn.refl [] W2).drew
  clear hW3 d0 d1 d2 d3 d4 d5 d6 d7 d8 df0 df1 df2 df3 df4 df5 df6 df7 df8 ds0 ds1 ds2 ds3 ds4 ds5 ds6 ds7 ds8 e0 e1 e2 e3 e4 e5 e6 e7 e8 ef0 ef1 ef2 ef3 ef4 ef5 ef6 ef7 ef8 es0 es1 es2 es3 es4 es5 es6 es7 es8 g1 g2 g3 c1 ci cj hptb hpcap hpmax
  have hx3 := (XI.out.1.turn X2.out.1 (by simp)).turn X3.out (by simp)
  obtain ⟨kf, hk⟩ := hx3.keys
  obtain ⟨kb, kcap, K1, hkv, hktb, hkcap, hkmax, hkR, hkF⟩ := hk.pos (by omega)
  have ci := (X3.out.row X2.out.2.2.2.1 (by simp)).cell (i := 0) (by omega)
  have cj := (X3.out.row X2.out.2.2.2.2 (by simp)).cell (i := 0) (by omega)
  simp only [List.getElem?_toArray, List.getElem?_cons_zero, Option.getD_some] at ci cj
  have c2 := hx3.row.cell (i := 2) (by omega)
  rw [hkv] at c2
  have di := hkR.cell (i := i) (by omega)
  rw [hkF i (by omega)] at di
  have dj := hkR.cell (i := j) (by omega)
  rw [hkF j (by omega)] at dj
  have ni := hkR.frozen i
  have nj := hkR.frozen j
  have g1 : tb ≠ kb := row_ne hx3.row hkR (by decide)
  have g2 : w.heap.size ≠ kb := row_ne (X3.out.row X2.out.2.2.2.1 (by simp)) hkR (by decide)
  have g3 : w.heap.size + 1 ≠ kb := row_ne (X3.out.row X2.out.2.2.2.2 (by simp)) hkR (by decide)
  have XK : Hid (Ix ((W3.setCell ⟨kb, i, none⟩ (.int .u64 (kf j))).setCell ⟨kb, j, none⟩ (.int .u64 (kf i))).drew tb tf n n ids pos mb ∧ Fr tb TX w ((W3.setCell ⟨kb, i, none⟩ (.int .u64 (kf j))).setCell ⟨kb, j, none⟩ (.int .u64 (kf i))).drew ∧ ((W3.setCell ⟨kb, i, none⟩ (.int .u64 (kf j))).setCell ⟨kb, j, none⟩ (.int .u64 (kf i))).drew.heap[D]? = some (.deferred (some [])) ∧ ((W3.setCell ⟨kb, i, none⟩ (.int .u64 (kf j))).setCell ⟨kb, j, none⟩ (.int .u64 (kf i))).drew.heap[E]? = some (.deferred (some [])) ∧
      ((W3.setCell ⟨kb, i, none⟩ (.int .u64 (kf j))).setCell ⟨kb, j, none⟩ (.int .u64 (kf i))).drew.rowIs w.heap.size 3 1 (fun k => (#[Value.int .i64 (i : Int)][k]?).getD undef) ∧ ((W3.setCell ⟨kb, i, none⟩ (.int .u64 (kf j))).setCell ⟨kb, j, none⟩ (.int .u64 (kf i))).drew.rowIs (w.heap.size + 1) 3 1 (fun k => (#[Value.int .i64 (j : Int)][k]?).getD undef)) := by
    have hT : Turn [kb] W3 ((W3.setCell ⟨kb, i, none⟩ (.int .u64 (kf j))).setCell ⟨kb, j, none⟩ (.int .u64 (kf i))).drew := (((Turn.refl [kb] W3).setCell (.inl (by simp)) _).setCell (.inl (by simp)) _).drew
    have hR1 := hkR.set i (.int .u64 (kf j))
    obtain ⟨cc, hcc, _⟩ := hkR
    rw [hkv] at hk
    refine ⟨hx3.rows (fun b o ho _ hn => hT.obj ho (fun hm => ?_)) ?_ ⟨fun k => if k = j then kf i else if k = i then kf j else kf k, ?_⟩ ?_, ?_, ?_, ?_, ?_, ?_⟩
    · simp at hm
      subst hm
      rw [hcc] at ho
      cases ho
      exact absurd rfl (hn cc).2.1
    · exact (hx3.places.of (fun b o _ ho ⟨c, e⟩ => hT.obj ho (fun hm => by simp at hm; subst hm; subst e; rw [hcc] at ho; cases ho)))
    · rw [hkv]
      exact (((hk.set (k := i) (.int .u64 (kf j))).set (k := j) (.int .u64 (kf i))).congr (fun k _ => by by_cases e1 : k = j <;> by_cases e2 : k = i <;> simp [e1, e2, hij])).turn ((Turn.refl [] _).drew) (by simp)
    · obtain ⟨g, hg⟩ := hx3.complete
      exact ⟨g, hg.of (fun b o _ ho ⟨c, e⟩ => hT.obj ho (fun hm => by simp at hm; subst hm; subst e; rw [hcc] at ho; cases ho))⟩
    · exact ((Fr.ofTurn (X2.out.1.trans X3.out) (by simp) (by simp)).trans (Fr.ofTurn hT (by simp; omega) (fun k hm c t fr hc => by simp at hm; subst hm; rw [hcc] at hc; cases hc; simp)))
    · exact hT.obj (X3.out.obj X2.out.2.1 (by simp)) (by simp; exact ne_of_obj (X3.out.obj X2.out.2.1 (by simp)) hcc (by simp))
    · exact hT.obj (X3.out.obj X2.out.2.2.1 (by simp)) (by simp; exact ne_of_obj (X3.out.obj X2.out.2.2.1 (by simp)) hcc (by simp))
    · exact hT.row (X3.out.row X2.out.2.2.2.1 (by simp)) (by simpa using g2)
    · exact hT.row (X3.out.row X2.out.2.2.2.2 (by simp)) (by simpa using g3)
  clear hx3 hk hkv hkR hkF hktb hkmax
  go_wp2
  refine wp_only ?_
  refine wp_region_exch 24 9 (fun w' => w'.cell? ⟨w.heap.size + 1, 0, none⟩ = some (.int .i64 (j : Int))) (v := .int .i64 (j : Int)) mixed rfl (by kernel_rfl) rfl (fun _ _ _ h => h) (.inl ⟨rfl, fun w' hS => by go_simp⟩) cj ?_
  simp only [List.take_succ_cons, List.take_zero, List.eraseIdx_cons_succ, List.eraseIdx_cons_zero]
  repeat still_step
  refine wpStill_nil ?_
  unfold tail4
  refine wpOp_value 81 (w' := W3.drew) (v := .pointer (some ⟨kb, i, none⟩)) rfl rfl rfl (by go_simp) ⟨cj, ?_⟩
  refine wpOp_skip (w' := (W3.setCell ⟨kb, i, none⟩ (.int .u64 (kf j))).drew) rfl rfl rfl (by go_simp) ⟨cell_set_other g3 cj, ?_⟩
  refine wpOp_value 82 (w' := (W3.setCell ⟨kb, i, none⟩ (.int .u64 (kf j))).drew) (v := .pointer (some ⟨kb, j, none⟩)) rfl rfl rfl (by go_simp) ⟨cell_set_other g3 cj, ?_⟩
  refine wpOp_skip (w' := ((W3.setCell ⟨kb, i, none⟩ (.int .u64 (kf j))).setCell ⟨kb, j, none⟩ (.int .u64 (kf i))).drew) rfl rfl rfl (by go_simp) ⟨cell_set_other g3 (cell_set_other g3 cj), ?_⟩
  go_frame
  refine then_only ?_
  refine q_world ?_
  intro W4 hW4
  have X4 : Hid (Ix W4 tb tf n n ids pos mb ∧ Fr tb TX w W4 ∧ W4.heap[D]? = some (.deferred (some [])) ∧ W4.heap[E]? = some (.deferred (some [])) ∧ W4.rowIs w.heap.size 3 1 (fun k => (#[Value.int .i64 (i : Int)][k]?).getD undef) ∧ W4.rowIs (w.heap.size + 1) 3 1 (fun k => (#[Value.int .i64 (j : Int)][k]?).getD undef)) := by
    rw [hW4]
    exact XK.out
  clear hW4 XK di dj ni nj g1 g2 g3 ci cj c2 hkcap X3 X2
  obtain ⟨hx4, hf4, hD4, hE4, hbi4, hbj4⟩ := X4.out
  obtain ⟨cf, hk⟩ := hx4.complete
  obtain ⟨cb, ccap, K1, hkv, hktb, hkcap, hkmax, hkR, hkF⟩ := hk.pos (by omega)
  have ci := hbi4.cell (i := 0) (by omega)
  have cj := hbj4.cell (i := 0) (by omega)
  simp only [List.getElem?_toArray, List.getElem?_cons_zero, Option.getD_some] at ci cj
  have c3 := hx4.row.cell (i := 3) (by omega)
  rw [hkv] at c3
  have di := hkR.cell (i := i) (by omega)
  rw [hkF i (by omega)] at di
  have dj := hkR.cell (i := j) (by omega)
  rw [hkF j (by omega)] at dj
  have ni := hkR.frozen i
  have nj := hkR.frozen j
  have g1 : tb ≠ cb := row_ne hx4.row hkR (by decide)
  have g2 : w.heap.size ≠ cb := row_ne hbi4 hkR (by decide)
  have g3 : w.heap.size + 1 ≠ cb := row_ne hbj4 hkR (by decide)
  have XK : Hid (Ix ((W4.setCell ⟨cb, i, none⟩ (.bool (cf j))).setCell ⟨cb, j, none⟩ (.bool (cf i))).drew tb tf n n ids pos mb ∧ Fr tb TX w ((W4.setCell ⟨cb, i, none⟩ (.bool (cf j))).setCell ⟨cb, j, none⟩ (.bool (cf i))).drew ∧ ((W4.setCell ⟨cb, i, none⟩ (.bool (cf j))).setCell ⟨cb, j, none⟩ (.bool (cf i))).drew.heap[D]? = some (.deferred (some [])) ∧ ((W4.setCell ⟨cb, i, none⟩ (.bool (cf j))).setCell ⟨cb, j, none⟩ (.bool (cf i))).drew.heap[E]? = some (.deferred (some [])) ∧
      ((W4.setCell ⟨cb, i, none⟩ (.bool (cf j))).setCell ⟨cb, j, none⟩ (.bool (cf i))).drew.rowIs w.heap.size 3 1 (fun k => (#[Value.int .i64 (i : Int)][k]?).getD undef) ∧ ((W4.setCell ⟨cb, i, none⟩ (.bool (cf j))).setCell ⟨cb, j, none⟩ (.bool (cf i))).drew.rowIs (w.heap.size + 1) 3 1 (fun k => (#[Value.int .i64 (j : Int)][k]?).getD undef)) := by
    have hT : Turn [cb] W4 ((W4.setCell ⟨cb, i, none⟩ (.bool (cf j))).setCell ⟨cb, j, none⟩ (.bool (cf i))).drew := (((Turn.refl [cb] W4).setCell (.inl (by simp)) _).setCell (.inl (by simp)) _).drew
    obtain ⟨cc, hcc, _⟩ := hkR
    rw [hkv] at hk
    refine ⟨hx4.rows (fun b o ho _ hn => hT.obj ho (fun hm => ?_)) ?_ ?_ ⟨fun k => if k = j then cf i else if k = i then cf j else cf k, ?_⟩, ?_, ?_, ?_, ?_, ?_⟩
    · simp at hm
      subst hm
      rw [hcc] at ho
      cases ho
      exact absurd rfl (hn cc).2.2
    · exact (hx4.places.of (fun b o _ ho ⟨c, e⟩ => hT.obj ho (fun hm => by simp at hm; subst hm; subst e; rw [hcc] at ho; cases ho)))
    · obtain ⟨g, hg⟩ := hx4.keys
      exact ⟨g, hg.of (fun b o _ ho ⟨c, e⟩ => hT.obj ho (fun hm => by simp at hm; subst hm; subst e; rw [hcc] at ho; cases ho))⟩
    · rw [hkv]
      exact (((hk.set (k := i) (.bool (cf j))).set (k := j) (.bool (cf i))).congr (fun k _ => by by_cases e1 : k = j <;> by_cases e2 : k = i <;> simp [e1, e2, hij])).turn ((Turn.refl [] _).drew) (by simp)
    · exact hf4.trans (Fr.ofTurn hT (by simp; omega) (fun k hm c t fr hc => by simp at hm; subst hm; rw [hcc] at hc; cases hc; simp))
    · exact hT.obj hD4 (by simp; exact ne_of_obj hD4 hcc (by simp))
    · exact hT.obj hE4 (by simp; exact ne_of_obj hE4 hcc (by simp))
    · exact hT.row hbi4 (by simpa using g2)
    · exact hT.row hbj4 (by simpa using g3)
  clear hx4 hk hkv hkR hkF hktb hkmax hf4 hD4 hE4 hbi4 hbj4
  go_wp2
  refine wp_only ?_
  refine wp_region_exch 24 9 (fun w' => w'.cell? ⟨w.heap.size + 1, 0, none⟩ = some (.int .i64 (j : Int))) (v := .int .i64 (j : Int)) mixed rfl (by kernel_rfl) rfl (fun _ _ _ h => h) (.inl ⟨rfl, fun w' hS => by go_simp⟩) cj ?_
  simp only [List.take_succ_cons, List.take_zero, List.eraseIdx_cons_succ, List.eraseIdx_cons_zero]
  repeat still_step
  refine wpStill_nil ?_
  unfold tail4
  refine wpOp_value 107 (w' := W4.drew) (v := .pointer (some ⟨cb, i, none⟩)) rfl rfl rfl (by go_simp) ⟨cj, ?_⟩
  refine wpOp_skip (w' := (W4.setCell ⟨cb, i, none⟩ (.bool (cf j))).drew) rfl rfl rfl (by go_simp) ⟨cell_set_other g3 cj, ?_⟩
  refine wpOp_value 108 (w' := (W4.setCell ⟨cb, i, none⟩ (.bool (cf j))).drew) (v := .pointer (some ⟨cb, j, none⟩)) rfl rfl rfl (by go_simp) ⟨cell_set_other g3 cj, ?_⟩
  refine wpOp_skip (w' := ((W4.setCell ⟨cb, i, none⟩ (.bool (cf j))).setCell ⟨cb, j, none⟩ (.bool (cf i))).drew) rfl rfl rfl (by go_simp) ⟨cell_set_other g3 (cell_set_other g3 cj), ?_⟩
  go_frame
  refine then_only ?_
  refine q_world ?_
  intro W5 hW5
  have X5 : Hid (Ix W5 tb tf n n ids pos mb ∧ Fr tb TX w W5 ∧ W5.heap[D]? = some (.deferred (some [])) ∧ W5.heap[E]? = some (.deferred (some [])) ∧ W5.rowIs w.heap.size 3 1 (fun k => (#[Value.int .i64 (i : Int)][k]?).getD undef) ∧ W5.rowIs (w.heap.size + 1) 3 1 (fun k => (#[Value.int .i64 (j : Int)][k]?).getD undef)) := by
    rw [hW5]
    exact XK.out
  clear hW5 XK di dj ni nj g1 g2 g3 ci cj c3 hkcap X4
  obtain ⟨hx5, hf5, hD5, hE5, hbi5, hbj5⟩ := X5.out
  obtain ⟨F0, hF0, hI0⟩ := hx5.ins
  obtain ⟨ib, icap, F, hiv, hitb, hicap, himax, hiR, hiF⟩ := hF0.pos (by omega)
  have hI : ∀ k r, pos k = some r → InAt F mb k r := fun k r hr => by
    obtain ⟨f0, f1, f2, f3, f4, f5⟩ := hI0 k r hr
    have hj := hx5.posl k r hr
    have hj2 := hx5.idl r hj.1
    rw [hj.2] at hj2
    exact ⟨by rw [hiF _ (by omega)]; exact f0, by rw [hiF _ (by omega)]; exact f1, by rw [hiF _ (by omega)]; exact f2, by rw [hiF _ (by omega)]; exact f3, by rw [hiF _ (by omega)]; exact f4, by rw [hiF _ (by omega)]; exact f5⟩
  have ci := hbi5.cell (i := 0) (by omega)
  have cj := hbj5.cell (i := 0) (by omega)
  simp only [List.getElem?_toArray, List.getElem?_cons_zero, Option.getD_some] at ci cj
  have c4 := hx5.row.cell (i := 4) (by omega)
  rw [hiv] at c4
  have g1 : tb ≠ ib := row_ne hx5.row hiR (by decide)
  have g2 : w.heap.size ≠ ib := row_ne hbi5 hiR (by decide)
  have g3 : w.heap.size + 1 ≠ ib := row_ne hbj5 hiR (by decide)
  have hld : ∀ a r (V : World), pos a = some r → a < n → V.rowIs ib 112 (icap * 6) F → (loadVar 112 ⟨ib, a * 6, none⟩).run Ybad.prog V = .ok (.agg #[.pointer (some ⟨mb, 0, none⟩), .int .i32 (r : Int), .pointer none, .int .i32 0, .pointer none, .int .i32 0]) V := fun a r V ha han hV => by
    obtain ⟨f0, f1, f2, f3, f4, f5⟩ := hI a r ha
    refine run_loadVar_mid V ib (a * 6) 112 [.pointer (some ⟨mb, 0, none⟩), .int .i32 (r : Int), .pointer none, .int .i32 0, .pointer none, .int .i32 0] _ (row_range hV (a * 6) _ (by simp; omega) (fun k hk => ?_)) Ybad.underlying112 rfl size112
    match k, hk with
    | 0, _ => rw [Nat.add_zero, f0]; rfl
    | 1, _ => rw [f1]; rfl
    | 2, _ => rw [f2]; rfl
    | 3, _ => rw [f3]; rfl
    | 4, _ => rw [f4]; rfl
    | 5, _ => rw [f5]; rfl
  have hrg : ∀ a r (V : World) (Z : Nat → Value), InAt Z mb a r → a < n → V.rowIs ib 112 (icap * 6) Z → V.rangeAt ib (a * 6) [.pointer (some ⟨mb, 0, none⟩), .int .i32 (r : Int), .pointer none, .int .i32 0, .pointer none, .int .i32 0] := fun a r V Z hZ han hV => row_range hV (a * 6) _ (by simp; omega) (fun k hk => by
    obtain ⟨f0, f1, f2, f3, f4, f5⟩ := hZ
    match k, hk with
    | 0, _ => rw [Nat.add_zero, f0]; rfl
    | 1, _ => rw [f1]; rfl
    | 2, _ => rw [f2]; rfl
    | 3, _ => rw [f3]; rfl
    | 4, _ => rw [f4]; rfl
    | 5, _ => rw [f5]; rfl)
  have hst : ∀ a r t (V : World) (Z : Nat → Value), InAt Z mb a r → a < n → V.rowIs ib 112 (icap * 6) Z → (storeVar 112 ⟨ib, a * 6, none⟩ (.agg #[.pointer (some ⟨mb, 0, none⟩), .int .i32 (t : Int), .pointer none, .int .i32 0, .pointer none, .int .i32 0])).run Ybad.prog V = .ok () (V.setCell ⟨ib, a * 6 + 1, none⟩ (.int .i32 (t : Int))) := fun a r t V Z hZ han hV => by
    rw [run_storeVar_mid V ib (a * 6) 112 #[.pointer (some ⟨mb, 0, none⟩), .int .i32 (t : Int), .pointer none, .int .i32 0, .pointer none, .int .i32 0] (fun k hk => ⟨by rw [hV.cell (by simp at hk; omega)]; rfl, hV.frozen _⟩) size112 (by simp [Value.oneCell'])]
    rw [setCells6 (hrg a r V Z hZ han hV)]
  have hIi := hI i p XI.out.2.1
  have hIj := hI j q XI.out.2.2.1
  have r1 := hiR.set (i * 6 + 1) (.int .i32 (q : Int))
  have hIj1 : InAt (fun k => if k = i * 6 + 1 then .int .i32 (q : Int) else F k) mb j q := by
    obtain ⟨f0, f1, f2, f3, f4, f5⟩ := hIj
    unfold InAt
    dsimp only
    rw [if_neg (by omega), if_neg (by omega), if_neg (by omega), if_neg (by omega), if_neg (by omega), if_neg (by omega)]
    exact ⟨f0, f1, f2, f3, f4, f5⟩
  have XL : Hid ((loadVar 112 ⟨ib, j * 6, none⟩).run Ybad.prog W5.drew = .ok (.agg #[.pointer (some ⟨mb, 0, none⟩), .int .i32 (q : Int), .pointer none, .int .i32 0, .pointer none, .int .i32 0]) W5.drew ∧ (loadVar 112 ⟨ib, i * 6, none⟩).run Ybad.prog W5.drew = .ok (.agg #[.pointer (some ⟨mb, 0, none⟩), .int .i32 (p : Int), .pointer none, .int .i32 0, .pointer none, .int .i32 0]) W5.drew ∧
      (storeVar 112 ⟨ib, i * 6, none⟩ (.agg #[.pointer (some ⟨mb, 0, none⟩), .int .i32 (q : Int), .pointer none, .int .i32 0, .pointer none, .int .i32 0])).run Ybad.prog W5.drew = .ok () (W5.setCell ⟨ib, i * 6 + 1, none⟩ (.int .i32 (q : Int))).drew ∧ (storeVar 112 ⟨ib, j * 6, none⟩ (.agg #[.pointer (some ⟨mb, 0, none⟩), .int .i32 (p : Int), .pointer none, .int .i32 0, .pointer none, .int .i32 0])).run Ybad.prog (W5.setCell ⟨ib, i * 6 + 1, none⟩ (.int .i32 (q : Int))).drew = .ok () ((W5.setCell ⟨ib, i * 6 + 1, none⟩ (.int .i32 (q : Int))).setCell ⟨ib, j * 6 + 1, none⟩ (.int .i32 (p : Int))).drew) :=
    ⟨hld j q W5.drew XI.out.2.2.1 hj hiR, hld i p W5.drew XI.out.2.1 hi hiR, hst i p q W5.drew F hIi hi hiR, hst j q p (W5.setCell ⟨ib, i * 6 + 1, none⟩ (.int .i32 (q : Int))).drew _ hIj1 hj r1⟩
  have X6 : Hid ((tf 4 = .slice (some ⟨ib, 0, none⟩) n icap ∧ tb < ib ∧ n ≤ icap ∧ icap ≤ maxLen) ∧ (∀ k r, pos k = some r → InAt F mb k r) ∧ W5.rowIs ib 112 (icap * 6) F) := ⟨⟨hiv, hitb, hicap, himax⟩, hI, hiR⟩
  clear hx5 hf5 hD5 hE5 hbi5 hbj5 hF0 hI0 hiv hitb himax hiR hiF hI hld hst hrg hIi hIj r1 hIj1
  go_wp2
  refine wp_only ?_
  refine wp_region_exch 24 9 (fun w' => w'.cell? ⟨w.heap.size + 1, 0, none⟩ = some (.int .i64 (j : Int))) (v := .int .i64 (j : Int)) mixed rfl (by kernel_rfl) rfl (fun _ _ _ h => h) (.inl ⟨rfl, fun w' hS => by go_simp⟩) cj ?_
  simp only [List.take_succ_cons, List.take_zero, List.eraseIdx_cons_succ, List.eraseIdx_cons_zero]
  iterate 15 still_step
  refine wpStill_value 125 rfl rfl (exec_load rfl rfl XL.out.1) ?_
  go_frame
  iterate 6 still_step
  refine wpStill_value 132 rfl rfl (exec_load rfl rfl XL.out.2.1) ?_
  go_frame
  refine wpStill_nil ?_
  unfold tail4
  refine wpOp_value 133 (w' := W5.drew) (v := .pointer (some ⟨ib, i * 6, none⟩)) rfl rfl rfl (by go_simp) ⟨cj, ?_⟩
  refine wpOp_skip (w' := (W5.setCell ⟨ib, i * 6 + 1, none⟩ (.int .i32 (q : Int))).drew) rfl rfl rfl (exec_store rfl rfl rfl XL.out.2.2.1) ⟨cell_set_other g3 cj, ?_⟩
  refine wpOp_value 134 (w' := (W5.setCell ⟨ib, i * 6 + 1, none⟩ (.int .i32 (q : Int))).drew) (v := .pointer (some ⟨ib, j * 6, none⟩)) rfl rfl rfl (by go_simp) ⟨cell_set_other g3 cj, ?_⟩
  refine wpOp_skip (w' := ((W5.setCell ⟨ib, i * 6 + 1, none⟩ (.int .i32 (q : Int))).setCell ⟨ib, j * 6 + 1, none⟩ (.int .i32 (p : Int))).drew) rfl rfl rfl (exec_store rfl rfl rfl XL.out.2.2.2) ⟨cell_set_other g3 (cell_set_other g3 cj), ?_⟩
  go_frame
  refine then_only ?_
  refine q_world ?_
  intro W6 hW6
  obtain ⟨hx5, hf5, hD5, hE5, hbi5, hbj5⟩ := X5.out
  obtain ⟨⟨hiv, hitb, hicap', himax⟩, hI, hiR⟩ := X6.out
  obtain ⟨gb, clock, born, mf, c, q1, q2, q3, q4, q5, hM, hm3, hm4, hd⟩ := hx5.grp.on (by omega)
  obtain ⟨db, dcap, G, hdv, hdtb, hdcap, hdmax, hdR, hdF⟩ := hd.pos (by omega)
  simp only [Nat.mul_one] at hdR hdF
  obtain ⟨hp1, hp2⟩ := hx5.posl i p XI.out.2.1
  obtain ⟨hq1, hq2⟩ := hx5.posl j q XI.out.2.2.1
  have hT6 : Turn [ib] W5 W6 := by rw [hW6]; exact (((Turn.refl [ib] W5).setCell (.inl (by simp)) _).setCell (.inl (by simp)) _).drew
  have r6 : W6.rowIs ib 112 (icap * 6) (fun k => if k = j * 6 + 1 then .int .i32 (p : Int) else if k = i * 6 + 1 then .int .i32 (q : Int) else F k) := by rw [hW6]; exact ((hiR.set (i * 6 + 1) _).set (j * 6 + 1) _).drew
  have h1 : mb ≠ ib := row_ne hM hiR (by decide)
  have h2 : db ≠ ib := row_ne hdR hiR (by decide)
  have h3 : tb ≠ ib := row_ne hx5.row hiR (by decide)
  have hM6 := hT6.row hM (by simpa using h1)
  have hD6 := hT6.row hdR (by simpa using h2)
  have hTb6 := hT6.row hx5.row (by simpa using h3)
  have hbi6 := hT6.row hbi5 (by simpa using g2)
  have hbj6 := hT6.row hbj5 (by simpa using g3)
  have n1 : w.heap.size + 1 ≠ db := row_ne hbj5 hdR (by decide)
  have n2 : ib ≠ db := Ne.symm h2
  have n3 : mb ≠ db := row_ne hM hdR (by decide)
  have n4 : tb ≠ db := row_ne hx5.row hdR (by decide)
  obtain ⟨a0, a1, a2, a3, a4, a5⟩ := hI i p XI.out.2.1
  obtain ⟨b0, b1, b2, b3, b4, b5⟩ := hI j q XI.out.2.2.1
  have X53 : Hid (Calls Ybad.prog 53 #[.pointer (some ⟨tb, 1, none⟩), .int .i64 (i : Int)] W6 fun e w7 => e = .returned (.tuple #[]) ∧ Hid (Turn [db] W6 w7 ∧ w7.rowIs db 21 dcap (fun k => if k = q then .int .i32 (i : Int) else G k)) ∧ w7.cell? ⟨w.heap.size + 1, 0, none⟩ = some (.int .i64 (j : Int))) := by
    refine (point_any tb i ib n icap mb q n dcap db tf _ mf G W6 hTb6 hiv r6 hi hicap hn3 ?_ ?_ ?_ ?_ ?_ ?_ hM6 hdv hq1 hdcap hD6).mono ?_
    · rw [if_neg (by omega), if_neg (by omega)]; exact a0
    · rw [if_neg (by omega), if_pos rfl]
    · rw [if_neg (by omega), if_neg (by omega)]; exact a2
    · rw [if_neg (by omega), if_neg (by omega)]; exact a3
    · rw [if_neg (by omega), if_neg (by omega)]; exact a4
    · rw [if_neg (by omega), if_neg (by omega)]; exact a5
    · rintro e w7 ⟨rfl, ht7, rd7⟩
      exact ⟨rfl, ⟨ht7, rd7⟩, by rw [(ht7.row hbj6 (by simpa using n1)).cell (by omega)]; rfl⟩
  have X54 : Hid (∀ w7, Turn [db] W6 w7 → w7.rowIs db 21 dcap (fun k => if k = q then .int .i32 (i : Int) else G k) → Calls Ybad.prog 53 #[.pointer (some ⟨tb, 1, none⟩), .int .i64 (j : Int)] w7 fun e w8 => e = .returned (.tuple #[]) ∧ Hid (Turn [db] w7 w8 ∧ w8.rowIs db 21 dcap (fun k => if k = p then .int .i32 (j : Int) else if k = q then .int .i32 (i : Int) else G k))) := fun w7 ht7 rd7 => by
    refine (point_any tb j ib n icap mb p n dcap db tf _ mf _ w7 (ht7.row hTb6 (by simpa using n4)) hiv (ht7.row r6 (by simpa using n2)) hj hicap hn3 ?_ ?_ ?_ ?_ ?_ ?_ (ht7.row hM6 (by simpa using n3)) hdv hp1 hdcap rd7).mono ?_
    · rw [if_neg (by omega), if_neg (by omega)]; exact b0
    · rw [if_pos rfl]
    · rw [if_neg (by omega), if_neg (by omega)]; exact b2
    · rw [if_neg (by omega), if_neg (by omega)]; exact b3
    · rw [if_neg (by omega), if_neg (by omega)]; exact b4
    · rw [if_neg (by omega), if_neg (by omega)]; exact b5
    · rintro e w8 ⟨rfl, ht8, rd8⟩
      exact ⟨rfl, ht8, rd8⟩
  have XF : Hid (∀ w7 w8, Turn [db] W6 w7 → Turn [db] w7 w8 → w8.rowIs db 21 dcap (fun k => if k = p then .int .i32 (j : Int) else if k = q then .int .i32 (i : Int) else G k) → IxA w8 tb tf n ∧ Fr tb TX w w8 ∧ w8.heap[D]? = some (.deferred (some [])) ∧ w8.heap[E]? = some (.deferred (some []))) := fun w7 w8 ht7 ht8 rd8 => by
    have hT : Turn [ib, db] W5 w8 := ((hT6.mono (by simp)).trans (ht7.mono (by simp))).trans (ht8.mono (by simp))
    have hx8 := hx5.swapped XI.out.2.1 XI.out.2.2.1 hij hiv hitb hicap himax hI hiR hM hm3 hm4 hdv hdtb hdcap hdmax hdR hdF hT (ht8.row (ht7.row r6 (by simpa using n2)) (by simpa using n2)) rd8
    have hty : ∀ k ∈ [ib, db], ∃ c t, W5.heap[k]? = some (.cells c t (0, 0)) ∧ t ∈ TX ∧ tb < k := fun k hk => by
      simp at hk
      rcases hk with rfl | rfl
      · obtain ⟨c, hc, _⟩ := hiR
        exact ⟨c, 112, hc, by decide, hitb⟩
      · obtain ⟨c, hc, _⟩ := hdR
        exact ⟨c, 21, hc, by decide, hdtb⟩
    refine ⟨⟨_, _, _, hx8, fun k hk => ?_⟩, hf5.trans (Fr.ofTurn hT (fun k hk => by obtain ⟨_, _, _, _, h⟩ := hty k hk; omega) (fun k hk c t fr hc => by obtain ⟨c', t', h', ht, _⟩ := hty k hk; rw [h'] at hc; cases hc; exact ht)), hT.obj hD5 (fun hm => ?_), hT.obj hE5 (fun hm => ?_)⟩
    · split
      · simp
      · split
        · simp
        · exact XI.out.2.2.2 k hk
    · obtain ⟨c', t', h', _, _⟩ := hty D hm
      rw [hD5] at h'; cases h'
    · obtain ⟨c', t', h', _, _⟩ := hty E hm
      rw [hE5] at h'; cases h'
  have ci6 := hbi6.cell (i := 0) (by omega)
  simp only [List.getElem?_toArray, List.getElem?_cons_zero, Option.getD_some] at ci6
  clear hW6 hx5 hf5 hD5 hE5 hbi5 hbj5 hiv hitb himax hI hiR q1 q2 q3 q4 q5 hM hm3 hm4 hd hdv hdR hdF hp1 hp2 hq1 hq2 hT6 r6 hM6 hD6 hTb6 hbi6 hbj6 a0 a1 a2 a3 a4 a5 b0 b1 b2 b3 b4 b5 XL ci cj c4 X5 X6
  go_upto_region 15 with (go_at_call 53; refine X53.out.mono ?_; rintro e w7 ⟨rfl, H7, cj7⟩)
  go_wp2_with (go_at_call 53; refine (X54.out w7 H7.out.1 H7.out.2).mono ?_; rintro e w8 ⟨rfl, H8⟩)
  obtain ⟨hx8, hf8, hD8, hE8⟩ := XF.out w7 w8 H7.out.1 H8.out.1 H8.out.2
  obtain ⟨ids8, pos8, mb8, hx8, ha8⟩ := hx8
  have hE9 : (w8.putObj E (.deferred none)).heap[D]? = some (.deferred (some [])) := (World.putObj_heap_other (by have := hEw.out.2; omega)).trans hD8
  exact leaves_marks2 hE8 hD8 (by have := hEw.out.2; omega) rfl ⟨rfl, (hf8.putObj _ hEw.out.1).putObj _ hDw.out, ids8, pos8, mb8, (hx8.mark hE8 _).mark hE9 _, ha8⟩

end Go.Proofs.YbulkbdskDoor
