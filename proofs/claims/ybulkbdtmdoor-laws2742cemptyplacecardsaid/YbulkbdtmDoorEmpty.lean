import Derived.Test.YbulkbdtmDoorEmptyInv
namespace Go.Proofs.YbulkbdtmDoor
open Go.RowKit

theorem zerosW_row (W : World) (m : Nat) (H B : Nat → Nat) (A : Array Value) (hA : A = Array.replicate 8 (.int .u64 0)) : (W.alloc (.cells A 26)).rowIs W.heap.size 26 8 (psF (uW m H B (fun _ => 0) 0)) :=
  row_of_array W A 26 _ (by subst hA; simp) (fun i hi => by subst hA; simp [hi, psF, uW])
theorem zerosC_row (W : World) (m : Nat) (H : Nat → Nat) (A : Array Value) (hA : A = Array.replicate 8 (.int .i64 0)) : (W.alloc (.cells A 24)).rowIs W.heap.size 24 8 (cntF (cntN m H 0)) :=
  row_of_array W A 24 _ (by subst hA; simp) (fun i hi => by subst hA; simp [hi, cntF, cntN])
theorem zerosE_row (W : World) (A : Array Value) (hA : A = Array.replicate 64 (.int .i64 0)) : (W.alloc (.cells A 27)).rowIs W.heap.size 27 64 (sqF fun _ _ => 0) := by
  have h := World.rowIs_alloc W A 27 (sqF fun _ _ => 0) (fun i hi => by subst hA; simp at hi; simp [hi, sqF])
  have e : A.size = 64 := by subst hA; simp
  rwa [e] at h

theorem start_mod {N m : Nat} {H B : Nat → Nat} {K V : Nat → Int} {W : World} (hs : W.heap.size = N + 3) (A1 A2 A3 A4 : Array Value) (h1 : A1 = Array.replicate 8 (.int .u64 0)) (h2 : A2 = Array.replicate 64 (.int .i64 0)) (h3 : A3 = Array.replicate 64 (.int .i64 0)) (h4 : A4 = Array.replicate 8 (.int .i64 0)) :
    ModE N m H B K V 0 ((((W.alloc (.cells A1 26)).alloc (.cells A2 27)).alloc (.cells A3 27)).alloc (.cells A4 24)) := by
  have r1 := zerosW_row W m H B A1 h1
  have r2 := zerosE_row (W.alloc (.cells A1 26)) A2 h2
  have r3 := zerosE_row ((W.alloc (.cells A1 26)).alloc (.cells A2 27)) A3 h3
  have r4 := zerosC_row (((W.alloc (.cells A1 26)).alloc (.cells A2 27)).alloc (.cells A3 27)) m H A4 h4
  simp only [World.size_alloc, hs] at r1 r2 r3 r4
  exact ⟨by simp [hs], ((r1.alloc _).alloc _).alloc _, (r2.alloc _).alloc _, r3.alloc _, r4⟩
theorem start_args {N : Nat} {ps : Nat → Nat} {K V : Nat → Int} {w W : World} (h : ArgsE N ps K V w W) (h0 : 0 < N) (hs : W.heap.size = N + 3) (o1 o2 o3 o4 : Obj) : ArgsE N ps K V w ((((W.alloc o1).alloc o2).alloc o3).alloc o4) :=
  h.later h0 (((((Below.refl _ _).alloc (by omega) _).alloc (by simp; omega) _).alloc (by simp; omega) _).alloc (by simp; omega) _)

set_option maxHeartbeats 2000000 in
set_option maxRecDepth 100000 in
theorem empty_core (fr : Bool) (a0 d : Int) (m : Nat) (A2 A3 A4 : Array Value) (ps : Nat → Nat) (K V : Nat → Int) (n : Nat) (H B : Nat → Nat) (w : World) (b0 : 0 ≤ a0) (b1 : a0 ≤ 255) (hn : 1 + a0 % 8 = (n : Int)) (hm : m < 256)
    (s2 : A2.size = 8) (s3 : A3.size = 8) (s4 : A4.size = 8) (h2 : ∀ i, i < 8 → A2[i]? = some (psF ps i))
    (h3 : ∀ i, i < 8 → A3[i]? = some (intF K i)) (h4 : ∀ i, i < 8 → A4[i]? = some (intF V i)) (hT : Tab w) (h0 : 0 < w.heap.size)
    (hH : ∀ i, homeOf (ps i) d n = H i) (hB : ∀ i, fpOf (ps i) = B i) :
    Calls Ybad.prog 3 #[.int .u8 a0, .int .i64 d, .int .u8 m, .agg A2, .agg A3, .agg A4, .bool fr] w fun e w' => e = .returned (.bool true) ∧ Below w.heap.size w w' := by
  have hn8 : n ≤ 8 := by omega
  have hn1 : 1 ≤ n := by omega
  have hHn : ∀ i, H i < n := fun i => by rw [← hH i]; exact homeOf_lt _ _ _ hn1
  have hB2 : ∀ i, 2 ≤ B i ∧ B i < 256 := fun i => by rw [← hB i]; exact fpOf_range _
  have XI : Hid (∀ i, i ≤ 8 → ∀ j, cntN m H i j ≤ i ∧ Filled (uW m H B (fun _ => 0) i j) (cntN m H i j)) := fresh_inv hB2
  have HA : Hid (ArgsE w.heap.size ps K V w (((w.alloc (.cells A2 23)).alloc (.cells A3 24)).alloc (.cells A4 24))) := ArgsE.start A2 A3 A4 w s2 s3 s4 h2 h3 h4 hT h0
  have XH : Hid ((∀ i, homeOf (ps i) d n = H i) ∧ (∀ i, fpOf (ps i) = B i) ∧ (∀ i, H i < n) ∧ (∀ i, 2 ≤ B i ∧ B i < 256)) := ⟨hH, hB, hHn, hB2⟩
  clear s2 s3 s4 h2 h3 h4 hT hH hB hHn hB2
  go_enter Ybad.func3, Ybad.ntmps3
  go_upto_block 0 with fail
  go_cut [20] from 34 (fun _ wd => ArgsE w.heap.size ps K V w wd ∧ ModE w.heap.size m H B K V 8 wd)
  case first =>
    go_wp2_with fail
    go_loopw [20] (fun i wr => ∃ k : Nat, k ≤ 8 ∧ i = .int .i64 k ∧ ArgsE w.heap.size ps K V w wr ∧ ModE w.heap.size m H B K V k wr) (fun i _ => 8 - (intOf i).toNat)
    case atStart => exact ⟨0, Nat.zero_le _, rfl, start_args HA.out h0 (by simp) _ _ _ _, start_mod (by simp) _ _ _ _ rfl rfl rfl rfl⟩
    case round =>
      obtain ⟨i, hi, rfl, hA, hM⟩ := hrel
      have XA : Hid (ArgsE w.heap.size ps K V w wr) := hA
      have XM : Hid (ModE w.heap.size m H B K V i wr) := hM
      by_cases hlt : i < 8
      · have hb := bit_u8 m i hm hlt
        by_cases ht : m.testBit i = true
        · rw [if_pos ht] at hb
          have HTB : Hid (m.testBit i = true) := ht
          have cP := hA.pos.cell hlt
          simp only [psF] at cP
          have hHi := XH.out.2.2.1 i
          have cW := hM.exp.cell (i := H i) (by omega)
          have cN := hM.cnt.cell (i := H i) (by omega)
          simp only [psF, cntF] at cW cN
          have fW := hM.exp.frozen (H i)
          have fN := hM.cnt.frozen (H i)
          obtain ⟨hq1, hq2⟩ := XI.out i (by omega) (H i)
          have k8 : cntN m H i (H i) < 8 := by omega
          have hBr := XH.out.2.2.2 i
          have ff2 := (filled_free hq2 k8).2
          have eor := filled_or hq2 k8 hBr.2
          have XHm : Hid (∀ W, Calls Ybad.prog 5 #[.int .u64 (ps i), .int .i64 d, .int .i64 n] W fun e w' => e = .returned (.int .i64 (H i)) ∧ W = w') := fun W => by rw [← XH.out.1 i]; exact (chome_any (ps i) n d W hn8).mono fun e w' h => ⟨h.1, h.2.symm⟩
          have XB : Hid (∀ W, Calls Ybad.prog 6 #[.int .u64 (ps i)] W fun e w' => e = .returned (.int .u8 (B i)) ∧ W = w') := fun W => by rw [← XH.out.2.1 i]; exact (cfp_any _ W).mono fun e w' h => ⟨h.1, h.2.symm⟩
          obtain ⟨c, hc⟩ : ∃ c, c = uW m H B (fun _ => 0) i (H i) := ⟨_, rfl⟩
          obtain ⟨k, hk⟩ : ∃ k, k = cntN m H i (H i) := ⟨_, rfl⟩
          obtain ⟨bt, hbt⟩ : ∃ bt, bt = B i := ⟨_, rfl⟩
          obtain ⟨j, hj⟩ : ∃ j, j = H i := ⟨_, rfl⟩
          rw [← hc, ← hk, ← hbt] at eor
          rw [← hc, ← hk] at ff2
          rw [← hc, ← hj] at cW
          rw [← hk, ← hj] at cN
          rw [← hj] at hHi fW fN XHm
          rw [← hbt] at XB hBr
          rw [← hk] at k8
          obtain ⟨cw, hcw⟩ : ∃ cw, cw = withN c k bt := ⟨_, rfl⟩
          rw [← hcw] at eor
          have HQ : Hid (c = uW m H B (fun _ => 0) i (H i) ∧ k = cntN m H i (H i) ∧ bt = B i ∧ j = H i ∧ cw = withN c k bt ∧ tz (freeM c) = k) := ⟨hc, hk, hbt, hj, hcw, ff2⟩
          have hj8 : (j : Int) < 8 := by omega
          have hk8 : (k : Int) < 8 := by omega
          have hi8 : (i : Int) < 8 := by omega
          have cK := hA.keys.cell hlt
          have cV := hA.vals.cell hlt
          simp only [intF] at cK cV
          obtain ⟨u1, cE⟩ : ∃ v, wr.cell? ⟨w.heap.size + 4, j * 8 + k, none⟩ = some v := ⟨_, hM.ek.cell (by omega)⟩
          obtain ⟨u2, cF⟩ : ∃ v, wr.cell? ⟨w.heap.size + 5, j * 8 + k, none⟩ = some v := ⟨_, hM.ev.cell (by omega)⟩
          have fE := hM.ek.frozen (j * 8 + k)
          have fF := hM.ev.frozen (j * 8 + k)
          have e8k : (8 * (k : Int)).toNat = 8 * k := by omega
          have ebt : IntKind.u64.wrap (bt : Int) = (bt : Int) := wrapLt bt (by omega)
          have emin : min (8 * k) 64 = 8 * k := by omega
          clear hA hM ht hq1 hq2 ff2 hc hk hbt hj hcw
          go_wp2_with (go_at_call 5; refine (XHm.out _).mono ?_; rintro e w' ⟨rfl, rfl⟩)
          go_region_with (first | (go_at_call 6; refine (XB.out _).mono ?_; rintro e w' ⟨rfl, rfl⟩))
          all_goals
            go_wp2
            go_region
            go_wp2
            go_region
            go_wp2
            go_roundw
            case rel =>
              obtain ⟨hc, hk, hbt, hj, hcw, ff⟩ := HQ.out
              exact ⟨i + 1, by omega, by go_num, ModE.placed XA.out XM.out h0 HTB.out j k cw hj.symm (by rw [hj, ← hc]; exact ff) (by rw [hj]; exact hk.symm) (by rw [hj, ← hc, ← hbt]; exact hcw.symm) k8⟩
            case measure => simp [intOf]; omega
        · rw [if_neg ht] at hb
          have hbf : m.testBit i = false := by simpa using ht
          have HF : Hid (m.testBit i = false) := hbf
          clear hA hM ht hbf
          go_wp2
          go_roundw
          case rel => exact ⟨i + 1, by omega, by go_num, XA.out, XM.out.no HF.out⟩
          case measure => simp [intOf]; omega
      · obtain rfl : i = 8 := by omega
        clear hA hM
        go_wp2
        go_meet
        case rel => exact ⟨XA.out, XM.out⟩
  case rest =>
    obtain ⟨hA, hM⟩ := hcut
    have HD : Hid (ArgsE w.heap.size ps K V w wc ∧ ModE w.heap.size m H B K V 8 wc) := ⟨hA, hM⟩
    clear hA hM HA XI
    obtain ⟨Wd, hWd⟩ : ∃ Wd, Wd = uW m H B (fun _ => 0) 8 := ⟨_, rfl⟩
    obtain ⟨EK, hEK⟩ : ∃ EK, EK = uE m H B (fun _ => 0) K 8 := ⟨_, rfl⟩
    obtain ⟨EV, hEV⟩ : ∃ EV, EV = uE m H B (fun _ => 0) V 8 := ⟨_, rfl⟩
    have HU : Hid (Wd = uW m H B (fun _ => 0) 8 ∧ EK = uE m H B (fun _ => 0) K 8 ∧ EV = uE m H B (fun _ => 0) V 8) := ⟨hWd, hEK, hEV⟩
    clear hWd hEK hEV
    go_upto_block 2 with (go_at_call 7; refine (newTable_any n d 0 _ (by omega)).mono ?_; rintro e we ⟨T, C, G, rfl, hN⟩; obtain ⟨g, hgN⟩ : ∃ g, we.heap.size = g := ⟨_, rfl⟩)
    have HgN : Hid (we.heap.size = g) := hgN
    have HW : Hid (HeldE w.heap.size ps K V w Wd EK EV T C G n d we ∧ we.rowIs C 25 n (fun _ => .int .u64 0) ∧ we.rowIs G 35 (n * 16) (fun _ => .int .i64 0)) := by
      have h := HeldE.of_new HD.out.1 HD.out.2 h0 hN
      rw [← HU.out.1, ← HU.out.2.1, ← HU.out.2.2] at h
      exact ⟨h, hN.ctrl, hN.groups⟩
    clear hN HD
    go_cut [25] from 91 (fun _ wd => wd.heap.size = g + 1 ∧ HeldE w.heap.size ps K V w Wd EK EV T C G n d wd ∧ wd.rowIs C 25 n (fun _ => .int .u64 0) ∧ wd.rowIs G 35 (n * 16) (fun _ => .int .i64 0) ∧ wd.rowIs g 35 16 (srcF V K))
    case first =>
      go_wp2_with fail
      go_loopw [25] (fun i wr => ∃ k : Nat, k ≤ 8 ∧ i = .int .i64 k ∧ Past C G we wr ∧ wr.heap.size = g + 1 ∧ wr.rowIs C 25 n (fun _ => .int .u64 0) ∧ wr.rowIs G 35 (n * 16) (fun _ => .int .i64 0) ∧ wr.rowIs g 35 16 (srcF (cutI V k) (cutI K k))) (fun i _ => 8 - (intOf i).toNat)
      case atStart =>
        refine ⟨0, Nat.zero_le _, rfl, (Past.refl _ _ _).alloc _, by simp [HgN.out], HW.out.2.1.alloc _, HW.out.2.2.alloc _, ?_⟩
        have h := zeros16_row we V K _ rfl
        rw [HgN.out] at h
        exact h
      case round =>
        obtain ⟨k, hk, rfl, hP, hS, hC, hG, hg⟩ := hrel
        have XH2 : Hid (Past C G we wr ∧ wr.heap.size = g + 1 ∧ wr.rowIs C 25 n (fun _ => .int .u64 0) ∧ wr.rowIs G 35 (n * 16) (fun _ => .int .i64 0) ∧ wr.rowIs g 35 16 (srcF (cutI V k) (cutI K k))) := ⟨hP, hS, hC, hG, hg⟩
        have hHd := HW.out.1.past h0 hP
        by_cases hlt : k < 8
        · have hk8 : (k : Int) < 8 := by omega
          have cK := hHd.args.keys.cell hlt
          have cV := hHd.args.vals.cell hlt
          simp only [intF] at cK cV
          obtain ⟨u1, cC⟩ : ∃ v, wr.cell? ⟨g, k, none⟩ = some v := ⟨_, hg.cell (by omega)⟩
          obtain ⟨u2, cD⟩ : ∃ v, wr.cell? ⟨g, 8 + k, none⟩ = some v := ⟨_, hg.cell (by omega)⟩
          have fC := hg.frozen k
          have fD := hg.frozen (8 + k)
          have nv : g ≠ w.heap.size + 2 := by
            have := HW.out.1.lt.1
            have := HW.out.1.own.1
            have := HgN.out
            omega
          have nC : g ≠ C ∧ g ≠ G := by
            have := HW.out.1.lt
            have := HgN.out
            omega
          have HNC : Hid (g ≠ C ∧ g ≠ G) := nC
          clear hP hS hC hG hg hHd nC
          go_wp2
          go_region
          go_wp2
          go_region
          go_wp2
          go_roundw
          case rel =>
            refine ⟨k + 1, by omega, by go_num, (((XH2.out.1.setNew (Nat.le_of_eq HgN.out) _).setNew (Nat.le_of_eq HgN.out) _)).drew.drew, ?_, ?_, ?_, ?_⟩
            · simp [World.setCell, XH2.out.2.1]
            · exact ((XH2.out.2.2.1.setOther (a := ⟨g, 8 + k, none⟩) (fun e => HNC.out.1 e.symm) _).setOther (a := ⟨g, k, none⟩) (fun e => HNC.out.1 e.symm) _)
            · exact ((XH2.out.2.2.2.1.setOther (a := ⟨g, 8 + k, none⟩) (fun e => HNC.out.2 e.symm) _).setOther (a := ⟨g, k, none⟩) (fun e => HNC.out.2 e.symm) _)
            · exact src_set XH2.out.2.2.2.2 hlt
          case measure => simp [intOf]; omega
        · obtain rfl : k = 8 := by omega
          clear hP hS hC hG hg hHd
          go_wp2
          go_meet
          case rel =>
            refine ⟨XH2.out.2.1, HW.out.1.past h0 XH2.out.1, XH2.out.2.2.1, XH2.out.2.2.2.1, XH2.out.2.2.2.2.congr (fun x hx => ?_)⟩
            simp only [srcF, cutI]
            by_cases e : x < 8
            · rw [if_pos e, if_pos e, if_pos e]
            · rw [if_neg e, if_neg e, if_pos (by omega)]
    case rest =>
      obtain ⟨hS, hH, hC, hG, hg⟩ := hcut
      have HX : Hid (wc.heap.size = g + 1 ∧ HeldE w.heap.size ps K V w Wd EK EV T C G n d wc ∧ wc.rowIs C 25 n (fun _ => .int .u64 0) ∧ wc.rowIs G 35 (n * 16) (fun _ => .int .i64 0) ∧ wc.rowIs g 35 16 (srcF V K)) := ⟨hS, hH, hC, hG, hg⟩
      have c0 := hH.args.pos.cell (i := 0) (by omega)
      have c1 := hH.args.pos.cell (i := 1) (by omega)
      have c2 := hH.args.pos.cell (i := 2) (by omega)
      have c3 := hH.args.pos.cell (i := 3) (by omega)
      have c4 := hH.args.pos.cell (i := 4) (by omega)
      have c5 := hH.args.pos.cell (i := 5) (by omega)
      have c6 := hH.args.pos.cell (i := 6) (by omega)
      have c7 := hH.args.pos.cell (i := 7) (by omega)
      simp only [psF] at c0 c1 c2 c3 c4 c5 c6 c7
      have HGg : Hid (C < g ∧ G < g) := by
        have h1 := HW.out.1.lt
        have h2 := HgN.out
        exact ⟨by omega, by omega⟩
      have hA8 : ∀ i, i < 8 → (#[psF ps 0, psF ps 1, psF ps 2, psF ps 3, psF ps 4, psF ps 5, psF ps 6, psF ps 7] : Array Value)[i]? = some (psF ps i) := fun i hi =>
        match i, hi with
        | 0, _ => rfl
        | 1, _ => rfl
        | 2, _ => rfl
        | 3, _ => rfl
        | 4, _ => rfl
        | 5, _ => rfl
        | 6, _ => rfl
        | 7, _ => rfl
      have XP : Hid (Calls Ybad.prog 8 #[.pointer (some ⟨T, 0, none⟩), .pointer (some ⟨g, 0, none⟩), .int .u64 (spread m), .pointer (some ⟨g + 1, 0, none⟩), .bool fr] (wc.alloc (.cells #[.int .u64 (ps 0), .int .u64 (ps 1), .int .u64 (ps 2), .int .u64 (ps 3), .int .u64 (ps 4), .int .u64 (ps 5), .int .u64 (ps 6), .int .u64 (ps 7)] 23)) fun e w' => e = .returned (.tuple #[]) ∧ LaidE w.heap.size ps K V w Wd EK EV T C G n g d w') :=
        place_atE fr #[.int .u64 (ps 0), .int .u64 (ps 1), .int .u64 (ps 2), .int .u64 (ps 3), .int .u64 (ps 4), .int .u64 (ps 5), .int .u64 (ps 6), .int .u64 (ps 7)] h0 hn1 hn8 hm rfl hA8 XH.out.1 XH.out.2.1 HU.out HX.out HGg.out
      have heq : ∀ W : World, (Op.equalIn 10000 23 (.agg #[.int .u64 (ps 0), .int .u64 (ps 1), .int .u64 (ps 2), .int .u64 (ps 3), .int .u64 (ps 4), .int .u64 (ps 5), .int .u64 (ps 6), .int .u64 (ps 7)]) (.agg #[.int .u64 (ps 0), .int .u64 (ps 1), .int .u64 (ps 2), .int .u64 (ps 3), .int .u64 (ps 4), .int .u64 (ps 5), .int .u64 (ps 6), .int .u64 (ps 7)])).run Ybad.prog W = .ok true W := fun W => equal_same _ ps W hA8
      clear hH hC hG hg HW hgN hA8
      go_upto_block 4 with (first | (go_at_call 9; refine (cmask_any m _ hm).mono ?_; rintro e w' ⟨rfl, rfl⟩) | (go_at_call 8; refine XP.out.mono ?_; rintro e wl ⟨rfl, hL⟩; clear c0 c1 c2 c3 c4 c5 c6 c7 XP HX hS; obtain ⟨c0, d0⟩ := hL.cells 0 (by omega); obtain ⟨c1, d1⟩ := hL.cells 1 (by omega); obtain ⟨c2, d2⟩ := hL.cells 2 (by omega); obtain ⟨c3, d3⟩ := hL.cells 3 (by omega); obtain ⟨c4, d4⟩ := hL.cells 4 (by omega); obtain ⟨c5, d5⟩ := hL.cells 5 (by omega); obtain ⟨c6, d6⟩ := hL.cells 6 (by omega); obtain ⟨c7, d7⟩ := hL.cells 7 (by omega); have t0 := hL.held.cnt0; have t3 := hL.held.grpS; have t4 := hL.held.ctlS; have HL : Hid (LaidE w.heap.size ps K V w Wd EK EV T C G n g d wl) := hL; clear hL))
      clear heq c0 c1 c2 c3 c4 c5 c6 c7 d0 d1 d2 d3 d4 d5 d6 d7 t0 t3 t4
      go_wp2_with fail
      go_loopw [27] (fun i wr => ∃ j : Nat, j ≤ 8 ∧ i = .int .i64 j ∧ LaidE w.heap.size ps K V w Wd EK EV T C G n g d wr) (fun i _ => 8 - (intOf i).toNat)
      case atStart => exact ⟨0, Nat.zero_le _, rfl, HL.out⟩
      case round =>
        obtain ⟨j, hj, rfl, hL⟩ := hrel
        have XL : Hid (LaidE w.heap.size ps K V w Wd EK EV T C G n g d wr) := hL
        clear HL
        by_cases hlt : j < 8
        · have hj8 : (j : Int) < 8 := by omega
          obtain ⟨s1, s2, s3, s4⟩ := hL.srcs j hlt
          clear hL
          go_wp2
          go_quiet (fail)
          go_wp2
          go_roundw
          case rel => exact ⟨j + 1, by omega, by go_num, XL.out.drewN h0 _⟩
          case measure => simp [intOf]; omega
        · obtain rfl : j = 8 := by omega
          clear hL
          go_wp2_with fail
          go_loopw [28] (fun i wr => ∃ j : Nat, j ≤ n ∧ i = .int .i64 j ∧ LaidE w.heap.size ps K V w Wd EK EV T C G n g d wr) (fun i _ => n - (intOf i).toNat)
          case atStart => exact ⟨0, Nat.zero_le _, rfl, XL.out⟩
          case round =>
            obtain ⟨j, hj, rfl, hL⟩ := hrel
            have XJ : Hid (LaidE w.heap.size ps K V w Wd EK EV T C G n g d wr) := hL
            clear XL
            by_cases hlt : j < n
            · have hji : (j : Int) < n := by omega
              have hj8 : (j : Int) < 8 := by omega
              have cT := hL.held.ctlS
              obtain ⟨cC, cW⟩ := hL.words j hlt hn8
              clear hL
              go_wp2
              go_quiet (fail)
              go_wp2_with fail
              clear cT cC cW
              go_loopw [29] (fun i wx => ∃ k : Nat, k ≤ 8 ∧ i = .int .i64 k ∧ LaidE w.heap.size ps K V w Wd EK EV T C G n g d wx) (fun i _ => 8 - (intOf i).toNat)
              case atStart => exact ⟨0, Nat.zero_le _, rfl, XJ.out.drewN h0 _⟩
              case round =>
                obtain ⟨k, hk, rfl, hL⟩ := hrel
                have XK : Hid (LaidE w.heap.size ps K V w Wd EK EV T C G n g d wr) := hL
                clear XJ
                by_cases hkl : k < 8
                · have hk8 : (k : Int) < 8 := by omega
                  have cT := hL.held.grpS
                  obtain ⟨cA, cB⟩ := hL.keysAt j k hlt hkl hn8
                  obtain ⟨cE, cF⟩ := hL.valsAt j k hlt hkl hn8
                  clear hL
                  go_wp2
                  go_quiet (fail)
                  go_wp2
                  go_roundw
                  case rel => exact ⟨k + 1, by omega, by go_num, XK.out.drewN h0 _⟩
                  case measure => simp [intOf]; omega
                · obtain rfl : k = 8 := by omega
                  clear hL
                  go_wp2
                  go_roundw
                  case rel => exact ⟨j + 1, by omega, by go_num, XK.out⟩
                  case measure => simp [intOf]; omega
            · obtain rfl : j = n := by omega
              clear hL
              go_wp2
              go_ret
              exact ⟨rfl, XJ.out.held.args.below⟩
end Go.Proofs.YbulkbdtmDoor
