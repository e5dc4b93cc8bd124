import Derived.Test.YbulkbdtmDoorEq
namespace Go.Proofs.YbulkbdtmDoor
open Go.RowKit

theorem zeros8_row (W : World) (t : TypeId) (v : Value) (f : Nat → Value) (hf : ∀ i, i < 8 → f i = v) : (W.alloc (.cells #[v, v, v, v, v, v, v, v] t)).rowIs W.heap.size t 8 f :=
  row_of_array W _ t f rfl (fun i hi => by
    rw [hf i hi]
    match i, hi with
    | 0, _ => rfl
    | 1, _ => rfl
    | 2, _ => rfl
    | 3, _ => rfl
    | 4, _ => rfl
    | 5, _ => rfl
    | 6, _ => rfl
    | 7, _ => rfl)

theorem zeros64_row (W : World) (A : Array Value) (hA : A = Array.replicate 64 (.int .i64 0)) : (W.alloc (.cells A 27)).rowIs W.heap.size 27 64 (sqF fun _ _ => 0) := by
  have h := World.rowIs_alloc W A 27 (sqF fun _ _ => 0) (fun i hi => by subst hA; simp at hi; simp [hi, sqF])
  have e : A.size = 64 := by subst hA; simp
  rwa [e] at h
theorem byte_eq (c t : Nat) : IntKind.u8.wrap ((c : Int) / 2 ^ (8 * t)) = ((byteAt c t : Nat) : Int) := by
  have e : (c : Int) / 2 ^ (8 * t) = ((c / 2 ^ (8 * t) : Nat) : Int) := by simp
  rw [e]
  unfold byteAt
  rw [show (256 : Nat) ^ t = 2 ^ (8 * t) by rw [show (256 : Nat) = 2 ^ 8 from rfl, ← Nat.pow_mul]]
  simp [IntKind.wrap, IntKind.bits, IntKind.signed]

set_option maxHeartbeats 2000000 in
set_option maxRecDepth 100000 in
theorem used_core (a0 d : Int) (m : Nat) (A1 A2 A3 A4 : Array Value) (ct ps : Nat → Nat) (K V : Nat → Int) (n : Nat) (H B : Nat → Nat) (w : World) (b0 : 0 ≤ a0) (b1 : a0 ≤ 255) (hn : 1 + a0 % 8 = (n : Int)) (hm : m < 256)
    (s1 : A1.size = 8) (s2 : A2.size = 8) (s3 : A3.size = 8) (s4 : A4.size = 8) (h1 : ∀ i, i < 8 → A1[i]? = some (psF ct i)) (h2 : ∀ i, i < 8 → A2[i]? = some (psF ps i))
    (h3 : ∀ i, i < 8 → A3[i]? = some (intF K i)) (h4 : ∀ i, i < 8 → A4[i]? = some (intF V i)) (hT : Tab w) (h0 : 0 < w.heap.size) (hct : ∀ j, ct j < 18446744073709551616)
    (hH : ∀ i, homeOf (ps i) d n = H i) (hB : ∀ i, fpOf (ps i) = B i) :
    Calls Ybad.prog 4 #[.int .u8 a0, .int .i64 d, .agg A1, .int .u8 m, .agg A2, .agg A3, .agg A4] w fun e w' => e = .returned (.bool true) ∧ Below w.heap.size w w' := by
  have hn8 : n ≤ 8 := by omega
  have hn1 : 1 ≤ n := by omega
  have hHn : ∀ i, H i < n := fun i => by rw [← hH i]; exact homeOf_lt _ _ _ hn1
  have HA : Hid (Args w.heap.size ct ps K V w ((((w.alloc (.cells A1 23)).alloc (.cells A2 23)).alloc (.cells A3 24)).alloc (.cells A4 24))) := Args.start A1 A2 A3 A4 w s1 s2 s3 s4 h1 h2 h3 h4 hT h0
  have XH : Hid ((∀ i, homeOf (ps i) d n = H i) ∧ (∀ i, fpOf (ps i) = B i) ∧ (∀ i, H i < n)) := ⟨hH, hB, hHn⟩
  have XC : Hid (∀ j, ct j < 18446744073709551616) := hct
  clear s1 s2 s3 s4 h1 h2 h3 h4 hT hH hB hHn hct
  go_enter Ybad.func4, Ybad.ntmps4
  go_upto_block 0 with fail
  go_cut [17] from 32 (fun _ wc => wc.heap.size = w.heap.size + 5 ∧ Args w.heap.size ct ps K V w wc ∧ wc.rowIs (w.heap.size + 4) 23 8 (psF (cut0 ct n)))
  case first =>
    go_wp2_with fail
    go_loopw [17] (fun i wr => ∃ k : Nat, k ≤ n ∧ i = .int .i64 k ∧ wr.heap.size = w.heap.size + 5 ∧ Args w.heap.size ct ps K V w wr ∧ wr.rowIs (w.heap.size + 4) 23 8 (psF (cut0 ct k))) (fun i _ => n - (intOf i).toNat)
    case atStart =>
      refine ⟨0, Nat.zero_le _, rfl, by simp, HA.out.later h0 ((Below.refl _ _).alloc (by simp) _), ?_⟩
      have h := zeros8_row ((((w.alloc (.cells A1 23)).alloc (.cells A2 23)).alloc (.cells A3 24)).alloc (.cells A4 24)) 23 (.int .u64 0) (psF (cut0 ct 0)) (fun i _ => by simp [psF, cut0])
      simp only [World.size_alloc] at h
      exact h
    case round =>
      obtain ⟨k, hk, rfl, hsz, hA, hr⟩ := hrel
      by_cases hlt : k < n
      · have c0 := hA.ctl.cell (i := k) (by omega)
        have c1 := hr.cell (i := k) (by omega)
        have f1 := hr.frozen k
        simp only [psF] at c0
        have HR : Hid (wr.heap.size = w.heap.size + 5 ∧ Args w.heap.size ct ps K V w wr ∧ wr.rowIs (w.heap.size + 4) 23 8 (psF (cut0 ct k))) := ⟨hsz, hA, hr⟩
        clear hsz hA hr
        go_wp2
        go_roundw
        case rel => exact ⟨k + 1, by omega, by go_num, by simp [World.setCell, HR.out.1], HR.out.2.1.later h0 ((Below.refl _ _).setCell (by show w.heap.size + 4 ≤ w.heap.size + 4; omega) _), cut0_set HR.out.2.2⟩
        case measure => simp [intOf]; omega
      · obtain rfl : k = n := by omega
        have HR : Hid (wr.heap.size = w.heap.size + 5 ∧ Args w.heap.size ct ps K V w wr ∧ wr.rowIs (w.heap.size + 4) 23 8 (psF (cut0 ct k))) := ⟨hsz, hA, hr⟩
        clear hsz hA hr
        go_wp2
        go_meet
        case rel => exact HR.out
  case rest =>
    obtain ⟨hsz, hA, hr⟩ := hcut
    have HR : Hid (wc.heap.size = w.heap.size + 5 ∧ Args w.heap.size ct ps K V w wc ∧ wc.rowIs (w.heap.size + 4) 23 8 (psF (cut0 ct n))) := ⟨hsz, hA, hr⟩
    clear hA hr HA
    go_upto_block 2 with fail
    go_cut [20] from 32 (fun _ wd => Args w.heap.size ct ps K V w wd ∧ Mod w.heap.size m H B (cut0 ct n) K V 8 wd)
    case first =>
      go_wp2_with fail
      go_loopw [20] (fun i wr => ∃ k : Nat, k ≤ 8 ∧ i = .int .i64 k ∧ Args w.heap.size ct ps K V w wr ∧ Mod w.heap.size m H B (cut0 ct n) K V k wr) (fun i _ => 8 - (intOf i).toNat)
      case atStart =>
        refine ⟨0, Nat.zero_le _, rfl, HR.out.2.1.later h0 (((Below.refl _ _).alloc (by rw [HR.out.1]; omega) _).alloc (by simp [HR.out.1]) _), by simp [HR.out.1], (HR.out.2.2.alloc _).alloc _, ?_, ?_, fun x hx => by omega⟩
        · have h := zeros64_row wc _ rfl
          rw [HR.out.1] at h
          exact h.alloc _
        · have h := zeros64_row (wc.alloc (.cells (Array.replicate 64 (.int .i64 0)) 27)) _ rfl
          simp only [World.size_alloc, HR.out.1] at h
          exact h
      case round =>
        obtain ⟨i, hi, rfl, hA, hM⟩ := hrel
        have XA : Hid (Args w.heap.size ct ps K V w wr) := hA
        have XM : Hid (Mod w.heap.size m H B (cut0 ct n) K V i wr) := hM
        by_cases hlt : i < 8
        · have hb := bit_u8 m i hm hlt
          by_cases ht : m.testBit i = true
          · rw [if_pos ht] at hb
            have cP := hA.pos.cell hlt
            simp only [psF] at cP
            have hHi := XH.out.2.2 i
            have cW := hM.wds.cell (i := H i) (by omega)
            simp only [psF] at cW
            obtain ⟨c, hc⟩ : ∃ c, c = uW m H B (cut0 ct n) i (H i) := ⟨_, rfl⟩
            rw [← hc] at cW
            have HC : Hid (c = uW m H B (cut0 ct n) i (H i)) := hc
            have XHm : Hid (∀ W, Calls Ybad.prog 5 #[.int .u64 (ps i), .int .i64 d, .int .i64 n] W fun e w' => e = .returned (.int .i64 (H i)) ∧ W = w') := fun W => by rw [← XH.out.1 i]; exact (chome_any (ps i) n d W hn8).mono fun e w' h => ⟨h.1, h.2.symm⟩
            obtain ⟨j, hj⟩ : ∃ j, j = H i := ⟨_, rfl⟩
            rw [← hj] at cW XHm hHi
            have HJ : Hid (j = H i) := hj
            clear hA hM hc hj
            go_upto_block 4 with (go_at_call 5; refine (XHm.out _).mono ?_; rintro e w' ⟨rfl, rfl⟩)
            go_cut [22] from 46 to 110 (fun kv wx => wr = wx ∧ ((freeM c = 0 ∧ kv = .int .i64 (-1)) ∨ (freeM c ≠ 0 ∧ kv = .int .i64 (tz (freeM c)))))
            case first =>
              have hj8 : (j : Int) < 8 := by omega
              go_wp2_with fail
              go_loop [22, 23] (fun kv tv => kv = .int .i64 (-1) ∧ ∃ t : Nat, t ≤ 8 ∧ tv = .int .i64 t ∧ ∀ x, x < t → ¬ byteAt c x < 2) (fun _ tv => 8 - (intOf tv).toNat)
              case atStart => exact ⟨rfl, 0, Nat.zero_le _, rfl, fun x hx => by omega⟩
              case round =>
                obtain ⟨rfl, t, ht8, rfl, hno⟩ := hrel
                have HN : Hid (∀ x, x < t → ¬ byteAt c x < 2) := hno
                clear hno
                by_cases htl : t < 8
                · have hbe := byte_eq c t
                  by_cases hbt : byteAt c t < 2
                  · have HF : Hid (freeM c ≠ 0 ∧ tz (freeM c) = t) := ⟨free_some c t htl hbt, free_at c t htl hbt HN.out⟩
                    have hbi : ((byteAt c t : Nat) : Int) < 2 := by omega
                    clear hbt
                    go_wp2
                    go_meet
                    case rel => exact ⟨rfl, .inr ⟨HF.out.1, by rw [HF.out.2]⟩⟩
                  · have hbi : ¬ ((byteAt c t : Nat) : Int) < 2 := by omega
                    have HB2 : Hid (¬ byteAt c t < 2) := hbt
                    clear hbt
                    go_wp2
                    go_round
                    case rel => exact ⟨rfl, t + 1, by omega, by go_num, fun x hx => by
                      by_cases e : x = t
                      · rw [e]; exact HB2.out
                      · exact HN.out x (by omega)⟩
                    case measure => simp [intOf]; omega
                · have HF : Hid (freeM c = 0) := by
                    rcases Nat.eq_zero_or_pos (freeM c) with h | h
                    · exact h
                    · have h2 := free_first c (by omega)
                      exact absurd h2.2.1 (HN.out _ (by omega))
                  go_wp2
                  go_meet
                  case rel => exact ⟨rfl, .inl ⟨HF.out, rfl⟩⟩
            case rest =>
              obtain ⟨rfl, hkv⟩ := hcut
              rcases hkv with ⟨hz, rfl⟩ | ⟨hz, rfl⟩
              · go_wp2
                go_ret
                exact ⟨rfl, XA.out.below⟩
              · obtain ⟨k, hk⟩ : ∃ k, k = tz (freeM c) := ⟨_, rfl⟩
                have k8 : k < 8 := by rw [hk]; exact (free_first c hz).1
                rw [← hk]
                have HK : Hid (k = tz (freeM c)) := hk
                have HZ : Hid (freeM c ≠ 0) := hz
                have HTB : Hid (m.testBit i = true) := ht
                have hj8 : (j : Int) < 8 := by omega
                have hk8 : (k : Int) < 8 := by omega
                have hi8 : (i : Int) < 8 := by omega
                have XB : Hid (∀ W, Calls Ybad.prog 6 #[.int .u64 (ps i)] W fun e w' => e = .returned (.int .u8 (B i)) ∧ W = w') := fun W => by rw [← XH.out.2.1 i]; exact (cfp_any _ W).mono fun e w' h => ⟨h.1, h.2.symm⟩
                have hBr : B i < 256 := by rw [← XH.out.2.1 i]; exact (fpOf_range _).2
                have eW := withN_eq c k (B i)
                obtain ⟨cw, hcw⟩ : ∃ cw, cw = withN c k (B i) := ⟨_, rfl⟩
                rw [← hcw] at eW
                have HCW : Hid (cw = withN c k (B i)) := hcw
                generalize hbi : B i = bt at *
                have fW := XM.out.wds.frozen j
                have cK := XA.out.keys.cell hlt
                have cV := XA.out.vals.cell hlt
                simp only [intF] at cK cV
                obtain ⟨u1, cE⟩ : ∃ v, wr.cell? ⟨w.heap.size + 5, j * 8 + k, none⟩ = some v := ⟨_, XM.out.ek.cell (by omega)⟩
                obtain ⟨u2, cF⟩ : ∃ v, wr.cell? ⟨w.heap.size + 6, j * 8 + k, none⟩ = some v := ⟨_, XM.out.ev.cell (by omega)⟩
                have fE := XM.out.ek.frozen (j * 8 + k)
                have fF := XM.out.ev.frozen (j * 8 + k)
                have e8k : (8 * (k : Int)).toNat = 8 * k := by omega
                have ebt : IntKind.u64.wrap (bt : Int) = (bt : Int) := wrapLt bt (by omega)
                clear hk hz hcw ht XHm
                go_wp2
                go_region_with (first | (go_at_call 6; refine (XB.out _).mono ?_; rintro e w' ⟨rfl, rfl⟩))
                all_goals
                  go_wp2
                  go_region
                  go_wp2
                  go_region
                  go_wp2
                  go_roundw
                  case rel =>
                    have hjj := HJ.out
                    have hcc : c = uW m H B (cut0 ct n) i j := by rw [hjj]; exact HC.out
                    exact ⟨i + 1, by omega, by go_num, Mod.placed XA.out XM.out h0 HTB.out j k cw hjj.symm (by rw [← hcc]; exact HK.out.symm) (by rw [← hcc, hbi]; exact HCW.out.symm) k8 (by rw [← hcc]; exact HZ.out)⟩
                  case measure => simp [intOf]; omega
          · rw [if_neg ht] at hb
            have hbf : m.testBit i = false := by simpa using ht
            have HF : Hid (m.testBit i = false) := hbf
            clear hA hM ht hbf
            go_wp2
            go_roundw
            case rel => exact ⟨i + 1, by omega, by go_num, XA.out, XM.out.no HF.out⟩
            case measure => simp [intOf]; omega
        · obtain rfl : i = 8 := by omega
          clear hA hM
          go_wp2
          go_meet
          case rel => exact ⟨XA.out, XM.out⟩
    case rest =>
      obtain ⟨hA, hM⟩ := hcut
      have HD : Hid (Args w.heap.size ct ps K V w wc ∧ Mod w.heap.size m H B (cut0 ct n) K V 8 wc) := ⟨hA, hM⟩
      clear hA hM HR
      obtain ⟨Wd, hWd⟩ : ∃ Wd, Wd = uW m H B (cut0 ct n) 8 := ⟨_, rfl⟩
      obtain ⟨EK, hEK⟩ : ∃ EK, EK = uE m H B (cut0 ct n) K 8 := ⟨_, rfl⟩
      obtain ⟨EV, hEV⟩ : ∃ EV, EV = uE m H B (cut0 ct n) V 8 := ⟨_, rfl⟩
      have HU : Hid (Wd = uW m H B (cut0 ct n) 8 ∧ EK = uE m H B (cut0 ct n) K 8 ∧ EV = uE m H B (cut0 ct n) V 8) := ⟨hWd, hEK, hEV⟩
      clear hWd hEK hEV
      go_upto_block 6 with (go_at_call 7; refine (newTable_any n d 0 _ (by omega)).mono ?_; rintro e we ⟨T, C, G, rfl, hN⟩)
      have HN : Hid (Held w.heap.size ct ps K V w Wd EK EV T C G n d we ∧ (∀ i, i < 8 → m.testBit i = true → freeM (uW m H B (cut0 ct n) i (H i)) ≠ 0) ∧ we.rowIs C 25 n (fun _ => .int .u64 0) ∧ we.rowIs G 35 (n * 16) (fun _ => .int .i64 0)) := by
        have h := Held.of_new HD.out.1 HD.out.2 h0 hN
        rw [← HU.out.1, ← HU.out.2.1, ← HU.out.2.2] at h
        exact ⟨h.1, h.2, hN.ctrl, hN.groups⟩
      clear hN HD
      go_cut [26] from 114 (fun _ wd => Held w.heap.size ct ps K V w Wd EK EV T C G n d wd ∧ wd.rowIs C 25 n (ctlF (cut0 ct n)) ∧ wd.rowIs G 35 (n * 16) (fun _ => .int .i64 0))
      case first =>
        go_wp2_with fail
        go_loopw [26] (fun i wr => ∃ k : Nat, k ≤ n ∧ i = .int .i64 k ∧ Held w.heap.size ct ps K V w Wd EK EV T C G n d wr ∧ wr.rowIs C 25 n (ctlF (cut0 ct k)) ∧ wr.rowIs G 35 (n * 16) (fun _ => .int .i64 0)) (fun i _ => n - (intOf i).toNat)
        case atStart =>
          refine ⟨0, Nat.zero_le _, rfl, HN.out.1, HN.out.2.2.1.congr (fun i _ => ?_), HN.out.2.2.2⟩
          simp [ctlF, cut0]
        case round =>
          obtain ⟨k, hk, rfl, hH, hC, hG⟩ := hrel
          have XH2 : Hid (Held w.heap.size ct ps K V w Wd EK EV T C G n d wr ∧ wr.rowIs C 25 n (ctlF (cut0 ct k)) ∧ wr.rowIs G 35 (n * 16) (fun _ => .int .i64 0)) := ⟨hH, hC, hG⟩
          by_cases hlt : k < n
          · have hki : (k : Int) < n := by omega
            have hk8 : (k : Int) < 8 := by omega
            have cT := hH.ctlS
            have cA := hH.args.ctl.cell (i := k) (by omega)
            simp only [psF] at cA
            obtain ⟨u1, cC⟩ : ∃ v, wr.cell? ⟨C, k, none⟩ = some v := ⟨_, hC.cell hlt⟩
            have fC := hC.frozen k
            clear hH hC hG
            go_wp2
            go_region
            go_wp2
            go_roundw
            case rel =>
              refine ⟨k + 1, by omega, by go_num, XH2.out.1.past h0 ((Past.refl _ _ _).setC _ _).drew, ?_, (XH2.out.2.2.setOther (a := ⟨C, k, none⟩) (fun e => XH2.out.1.apart.2.2 e.symm) _)⟩
              exact cut0_set XH2.out.2.1
            case measure => simp [intOf]; omega
          · obtain rfl : k = n := by omega
            clear hH hC hG
            go_wp2
            go_meet
            case rel => exact XH2.out
      case rest =>
        obtain ⟨hH, hC, hG⟩ := hcut
        have HW : Hid (Held w.heap.size ct ps K V w Wd EK EV T C G n d wc ∧ wc.rowIs C 25 n (ctlF (cut0 ct n)) ∧ wc.rowIs G 35 (n * 16) (fun _ => .int .i64 0)) := ⟨hH, hC, hG⟩
        have HRm : Hid (∀ i, i < 8 → m.testBit i = true → freeM (uW m H B (cut0 ct n) i (H i)) ≠ 0) := HN.out.2.1
        clear hH hC hG HN
        obtain ⟨g, hgN⟩ : ∃ g, wc.heap.size = g := ⟨_, rfl⟩
        have HgN : Hid (wc.heap.size = g) := hgN
        go_upto_block 8 with fail
        go_cut [28] from 131 (fun _ wd => wd.heap.size = g + 1 ∧ Held w.heap.size ct ps K V w Wd EK EV T C G n d wd ∧ wd.rowIs C 25 n (ctlF (cut0 ct n)) ∧ wd.rowIs G 35 (n * 16) (fun _ => .int .i64 0) ∧ wd.rowIs g 35 16 (srcF V K))
        case first =>
          go_wp2_with fail
          go_loopw [28] (fun i wr => ∃ k : Nat, k ≤ 8 ∧ i = .int .i64 k ∧ Past C G wc wr ∧ wr.heap.size = g + 1 ∧ wr.rowIs C 25 n (ctlF (cut0 ct n)) ∧ wr.rowIs G 35 (n * 16) (fun _ => .int .i64 0) ∧ wr.rowIs g 35 16 (srcF (cutI V k) (cutI K k))) (fun i _ => 8 - (intOf i).toNat)
          case atStart =>
            refine ⟨0, Nat.zero_le _, rfl, (Past.refl _ _ _).alloc _, by simp [HgN.out], HW.out.2.1.alloc _, HW.out.2.2.alloc _, ?_⟩
            have h := zeros16_row wc V K _ rfl
            rw [HgN.out] at h
            exact h
          case round =>
            obtain ⟨k, hk, rfl, hP, hS, hC, hG, hg⟩ := hrel
            have XH2 : Hid (Past C G wc wr ∧ wr.heap.size = g + 1 ∧ wr.rowIs C 25 n (ctlF (cut0 ct n)) ∧ wr.rowIs G 35 (n * 16) (fun _ => .int .i64 0) ∧ wr.rowIs g 35 16 (srcF (cutI V k) (cutI K k))) := ⟨hP, hS, hC, hG, hg⟩
            have hHd := HW.out.1.past h0 hP
            by_cases hlt : k < 8
            · have hk8 : (k : Int) < 8 := by omega
              have cK := hHd.args.keys.cell hlt
              have cV := hHd.args.vals.cell hlt
              simp only [intF] at cK cV
              obtain ⟨u1, cC⟩ : ∃ v, wr.cell? ⟨g, k, none⟩ = some v := ⟨_, hg.cell (by omega)⟩
              obtain ⟨u2, cD⟩ : ∃ v, wr.cell? ⟨g, 8 + k, none⟩ = some v := ⟨_, hg.cell (by omega)⟩
              have fC := hg.frozen k
              have fD := hg.frozen (8 + k)
              have nv : g ≠ w.heap.size + 3 := by
                have := HW.out.1.lt.1
                have := HW.out.1.own.1
                have := HgN.out
                omega
              have nC : g ≠ C ∧ g ≠ G := by
                have := HW.out.1.lt
                have := HgN.out
                omega
              have HNC : Hid (g ≠ C ∧ g ≠ G) := nC
              clear hP hS hC hG hg hHd nC
              go_wp2
              go_region
              go_wp2
              go_region
              go_wp2
              go_roundw
              case rel =>
                refine ⟨k + 1, by omega, by go_num, (((XH2.out.1.setNew (Nat.le_of_eq HgN.out) _).setNew (Nat.le_of_eq HgN.out) _)).drew.drew, ?_, ?_, ?_, ?_⟩
                · simp [World.setCell, XH2.out.2.1]
                · exact ((XH2.out.2.2.1.setOther (a := ⟨g, 8 + k, none⟩) (fun e => HNC.out.1 e.symm) _).setOther (a := ⟨g, k, none⟩) (fun e => HNC.out.1 e.symm) _)
                · exact ((XH2.out.2.2.2.1.setOther (a := ⟨g, 8 + k, none⟩) (fun e => HNC.out.2 e.symm) _).setOther (a := ⟨g, k, none⟩) (fun e => HNC.out.2 e.symm) _)
                · exact src_set XH2.out.2.2.2.2 hlt
              case measure => simp [intOf]; omega
            · obtain rfl : k = 8 := by omega
              clear hP hS hC hG hg hHd
              go_wp2
              go_meet
              case rel =>
                refine ⟨XH2.out.2.1, HW.out.1.past h0 XH2.out.1, XH2.out.2.2.1, XH2.out.2.2.2.1, XH2.out.2.2.2.2.congr (fun x hx => ?_)⟩
                simp only [srcF, cutI]
                by_cases e : x < 8
                · rw [if_pos e, if_pos e, if_pos e]
                · rw [if_neg e, if_neg e, if_pos (by omega)]
        case rest =>
          obtain ⟨hS, hH, hC, hG, hg⟩ := hcut
          have HX : Hid (wc.heap.size = g + 1 ∧ Held w.heap.size ct ps K V w Wd EK EV T C G n d wc ∧ wc.rowIs C 25 n (ctlF (cut0 ct n)) ∧ wc.rowIs G 35 (n * 16) (fun _ => .int .i64 0) ∧ wc.rowIs g 35 16 (srcF V K)) := ⟨hS, hH, hC, hG, hg⟩
          have c0 := hH.args.pos.cell (i := 0) (by omega)
          have c1 := hH.args.pos.cell (i := 1) (by omega)
          have c2 := hH.args.pos.cell (i := 2) (by omega)
          have c3 := hH.args.pos.cell (i := 3) (by omega)
          have c4 := hH.args.pos.cell (i := 4) (by omega)
          have c5 := hH.args.pos.cell (i := 5) (by omega)
          have c6 := hH.args.pos.cell (i := 6) (by omega)
          have c7 := hH.args.pos.cell (i := 7) (by omega)
          simp only [psF] at c0 c1 c2 c3 c4 c5 c6 c7
          have HGg : Hid (C < g ∧ G < g) := by
            have h1 := HW.out.1.lt
            have h2 := HgN.out
            exact ⟨by omega, by omega⟩
          have hA8 : ∀ i, i < 8 → (#[psF ps 0, psF ps 1, psF ps 2, psF ps 3, psF ps 4, psF ps 5, psF ps 6, psF ps 7] : Array Value)[i]? = some (psF ps i) := fun i hi =>
            match i, hi with
            | 0, _ => rfl
            | 1, _ => rfl
            | 2, _ => rfl
            | 3, _ => rfl
            | 4, _ => rfl
            | 5, _ => rfl
            | 6, _ => rfl
            | 7, _ => rfl
          have XP : Hid (Calls Ybad.prog 8 #[.pointer (some ⟨T, 0, none⟩), .pointer (some ⟨g, 0, none⟩), .int .u64 (spread m), .pointer (some ⟨g + 1, 0, none⟩), .bool false] (wc.alloc (.cells #[.int .u64 (ps 0), .int .u64 (ps 1), .int .u64 (ps 2), .int .u64 (ps 3), .int .u64 (ps 4), .int .u64 (ps 5), .int .u64 (ps 6), .int .u64 (ps 7)] 23)) fun e w' => e = .returned (.tuple #[]) ∧ Laid w.heap.size ct ps K V w Wd EK EV T C G n g d w') :=
            place_at #[.int .u64 (ps 0), .int .u64 (ps 1), .int .u64 (ps 2), .int .u64 (ps 3), .int .u64 (ps 4), .int .u64 (ps 5), .int .u64 (ps 6), .int .u64 (ps 7)] h0 hn1 hn8 hm rfl hA8 XC.out XH.out.1 XH.out.2.1 HRm.out HU.out HX.out HGg.out
          have heq : ∀ W : World, (Op.equalIn 10000 23 (.agg #[.int .u64 (ps 0), .int .u64 (ps 1), .int .u64 (ps 2), .int .u64 (ps 3), .int .u64 (ps 4), .int .u64 (ps 5), .int .u64 (ps 6), .int .u64 (ps 7)]) (.agg #[.int .u64 (ps 0), .int .u64 (ps 1), .int .u64 (ps 2), .int .u64 (ps 3), .int .u64 (ps 4), .int .u64 (ps 5), .int .u64 (ps 6), .int .u64 (ps 7)])).run Ybad.prog W = .ok true W := fun W => equal_same _ ps W hA8
          clear hH hC hG hg HW hgN hA8
          go_upto_block 10 with (first | (go_at_call 9; refine (cmask_any m _ hm).mono ?_; rintro e w' ⟨rfl, rfl⟩) | (go_at_call 8; refine XP.out.mono ?_; rintro e wl ⟨rfl, hL⟩; clear c0 c1 c2 c3 c4 c5 c6 c7 XP HX hS; obtain ⟨c0, d0⟩ := hL.cells 0 (by omega); obtain ⟨c1, d1⟩ := hL.cells 1 (by omega); obtain ⟨c2, d2⟩ := hL.cells 2 (by omega); obtain ⟨c3, d3⟩ := hL.cells 3 (by omega); obtain ⟨c4, d4⟩ := hL.cells 4 (by omega); obtain ⟨c5, d5⟩ := hL.cells 5 (by omega); obtain ⟨c6, d6⟩ := hL.cells 6 (by omega); obtain ⟨c7, d7⟩ := hL.cells 7 (by omega); have HL : Hid (Laid w.heap.size ct ps K V w Wd EK EV T C G n g d wl) := hL; clear hL))
          clear heq c0 c1 c2 c3 c4 c5 c6 c7 d0 d1 d2 d3 d4 d5 d6 d7
          go_wp2_with fail
          go_loopw [30] (fun i wr => ∃ j : Nat, j ≤ n ∧ i = .int .i64 j ∧ Laid w.heap.size ct ps K V w Wd EK EV T C G n g d wr) (fun i _ => n - (intOf i).toNat)
          case atStart => exact ⟨0, Nat.zero_le _, rfl, HL.out⟩
          case round =>
            obtain ⟨j, hj, rfl, hL⟩ := hrel
            have XL : Hid (Laid w.heap.size ct ps K V w Wd EK EV T C G n g d wr) := hL
            by_cases hlt : j < n
            · have hji : (j : Int) < n := by omega
              have hj8 : (j : Int) < 8 := by omega
              have cT := hL.held.ctlS
              obtain ⟨cC, cW⟩ := hL.words j hlt hn8
              clear hL HL
              go_wp2
              go_quiet (fail)
              go_wp2_with fail
              clear cT cC cW
              go_loopw [31] (fun i wx => ∃ k : Nat, k ≤ 8 ∧ i = .int .i64 k ∧ Laid w.heap.size ct ps K V w Wd EK EV T C G n g d wx) (fun i _ => 8 - (intOf i).toNat)
              case atStart => exact ⟨0, Nat.zero_le _, rfl, XL.out.drewN h0 _⟩
              case round =>
                obtain ⟨k, hk, rfl, hL⟩ := hrel
                have XK : Hid (Laid w.heap.size ct ps K V w Wd EK EV T C G n g d wr) := hL
                clear XL
                by_cases hkl : k < 8
                · have hk8 : (k : Int) < 8 := by omega
                  have cT := hL.held.grpS
                  obtain ⟨cA, cB⟩ := hL.keysAt j k hlt hkl hn8
                  obtain ⟨cE, cF⟩ := hL.valsAt j k hlt hkl hn8
                  clear hL
                  go_wp2
                  go_quiet (fail)
                  go_wp2
                  go_roundw
                  case rel => exact ⟨k + 1, by omega, by go_num, XK.out.drewN h0 _⟩
                  case measure => simp [intOf]; omega
                · obtain rfl : k = 8 := by omega
                  clear hL
                  go_wp2
                  go_roundw
                  case rel => exact ⟨j + 1, by omega, by go_num, XK.out⟩
                  case measure => simp [intOf]; omega
            · obtain rfl : j = n := by omega
              clear hL HL
              go_wp2
              go_ret
              exact ⟨rfl, XL.out.held.args.below⟩
end Go.Proofs.YbulkbdtmDoor
