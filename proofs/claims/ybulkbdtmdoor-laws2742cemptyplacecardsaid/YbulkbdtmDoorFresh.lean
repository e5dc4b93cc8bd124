import Derived.Test.YbulkbdtmDoorPlace
import Derived.Test.YbulkbdtmDoorFreshN
namespace Go.Proofs.YbulkbdtmDoor
open Go.RowKit

set_option maxHeartbeats 2000000 in
set_option maxRecDepth 100000 in
theorem placeFresh_any (T C G g P n : Nat) (d : Int) (V K : Nat → Int) (ps : Nat → Nat) (m : Nat) (H B : Nat → Nat) (w : World) (hn0 : 0 < n) (hn : n ≤ 8) (hm : m < 256)
    (hE : Env T C G g P n d V K ps w) (hU : URow C G n (fun _ => 0) (fun _ _ => 0) (fun _ _ => 0) w)
    (hT : T ≠ C ∧ T ≠ G) (hg : g ≠ C ∧ g ≠ G) (hP : P ≠ C ∧ P ≠ G) (h0 : 0 ≠ C ∧ 0 ≠ G) (hCG : C ≠ G)
    (hH : ∀ i, homeOf (ps i) d n = H i) (hB : ∀ i, fpOf (ps i) = B i) :
    Calls Ybad.prog 12 #[.pointer (some ⟨T, 0, none⟩), .pointer (some ⟨g, 0, none⟩), .int .u64 (spread m), .pointer (some ⟨P, 0, none⟩)] w fun e w' => e = .returned (.tuple #[]) ∧ Only2 C G w w' ∧
      URow C G n (uW m H B (fun _ => 0) 8) (uE m H B (fun _ => 0) V 8) (uE m H B (fun _ => 0) K 8) w' := by
  have g3 := hE.grpS
  have g4 := hE.ctlS
  have g5 := hE.dep
  have e63 := and63_i64 d
  obtain ⟨sh, hsh⟩ : ∃ sh, sh = (d % 64).toNat := ⟨_, rfl⟩
  rw [← hsh] at e63
  have hs64 : sh < 64 := by omega
  have HSh : Hid (sh = (d % 64).toNat) := hsh
  have hB2 : ∀ i, 2 ≤ B i ∧ B i < 256 := fun i => by rw [← hB i]; exact fpOf_range _
  have XI : Hid (∀ i, i ≤ 8 → ∀ j, cntN m H i j ≤ i ∧ Filled (uW m H B (fun _ => 0) i j) (cntN m H i j)) := fresh_inv hB2
  have XE : Hid (Env T C G g P n d V K ps w) := hE
  have XU : Hid (URow C G n (fun _ => 0) (fun _ _ => 0) (fun _ _ => 0) w) := hU
  have XA : Hid ((T ≠ C ∧ T ≠ G) ∧ (g ≠ C ∧ g ≠ G) ∧ (P ≠ C ∧ P ≠ G) ∧ (0 ≠ C ∧ 0 ≠ G) ∧ C ≠ G) := ⟨hT, hg, hP, h0, hCG⟩
  have XH : Hid ((∀ i, homeOf (ps i) d n = H i) ∧ (∀ i, fpOf (ps i) = B i) ∧ (∀ i, 2 ≤ B i ∧ B i < 256)) := ⟨hH, hB, hB2⟩
  clear hE hU hT hg hP h0 hCG hH hB hsh hB2
  go_enter Ybad.func12, Ybad.ntmps12
  go_wp2
  go_quiet (fail)
  go_wp2_with fail
  clear g3 g4 g5 e63
  go_loopw [12, 13, 14, 15] (fun l wd wt s wr => ∃ i li wv lz : Nat, i ≤ 8 ∧ s = .int .u64 (spread (hiM m i)) ∧ l = .int .u64 lz ∧ wd = .int .u64 wv ∧ wt = .int .u64 0 ∧ (lz = n ∨ (li < n ∧ lz = li ∧ wv = uW m H B (fun _ => 0) i li)) ∧ Only2 C G w wr ∧
      URow C G n (uW m H B (fun _ => 0) i) (uE m H B (fun _ => 0) V i) (uE m H B (fun _ => 0) K i) wr) (fun _ _ _ s _ => (intOf s).toNat)
  case atStart => exact ⟨0, 0, 0, n, Nat.zero_le _, by rw [hiM_zero], rfl, rfl, rfl, .inl rfl, (Only2.refl _ _ _).drewN _, XU.out.drewN _⟩
  case round =>
    obtain ⟨i, li, wv, lz, hi, rfl, rfl, rfl, rfl, hlast, hO, hR⟩ := hrel
    by_cases hz : hiM m i = 0
    · have hb : (((spread (hiM m i) : Nat) : Int) != 0) = false := by rw [hz]; rfl
      have hgap := u_gap (m := m) (H := H) (B := B) (W0 := fun _ => 0) (X := V) (i := i) (8 - i) (fun x h1 h2 => hiM_none ⟨m, hm⟩ ⟨i, by omega⟩ hz ⟨x, by omega⟩ h1)
      have hgap2 := u_gap (m := m) (H := H) (B := B) (W0 := fun _ => 0) (X := K) (i := i) (8 - i) (fun x h1 h2 => hiM_none ⟨m, hm⟩ ⟨i, by omega⟩ hz ⟨x, by omega⟩ h1)
      rw [show i + (8 - i) = 8 by omega] at hgap hgap2
      have XF : Hid (Only2 C G w wr ∧ URow C G n (uW m H B (fun _ => 0) 8) (uE m H B (fun _ => 0) V 8) (uE m H B (fun _ => 0) K 8) wr) := ⟨hO, by rw [hgap.1, hgap.2, hgap2.2]; exact hR⟩
      clear hgap hgap2 hO hR hlast
      go_wp2_with fail
      go_loopw [23] (fun s wx => s = .int .u64 0 ∧ wx = wr) (fun _ _ => 0)
      case atStart => exact ⟨rfl, rfl⟩
      case round =>
        obtain ⟨rfl, rfl⟩ := hrel
        go_wp2
        go_end0
        exact ⟨rfl, XF.out⟩
    · obtain ⟨t, ht⟩ : ∃ t, t = tz (hiM m i) := ⟨_, rfl⟩
      obtain ⟨f1, f2, f3, f4, f5⟩ := hiM_facts ⟨m, hm⟩ ⟨i, by omega⟩ hz
      dsimp only at f1 f2 f3 f4 f5
      have s2 : spread (hiM m i) ≠ 0 := (spread_facts ⟨hiM m i, f5⟩ hz).2.1
      have s3 : spread (hiM m i) < 18446744073709551616 := (spread_facts ⟨hiM m i, f5⟩ hz).2.2.1
      have hgap := u_gap (m := m) (H := H) (B := B) (W0 := fun _ => 0) (X := V) (i := i) (t - i) (fun x h1 h2 => hiM_gap ⟨m, hm⟩ ⟨i, by omega⟩ hz ⟨x, by omega⟩ h1 (by show x < tz (hiM m i); omega))
      have hgap2 := u_gap (m := m) (H := H) (B := B) (W0 := fun _ => 0) (X := K) (i := i) (t - i) (fun x h1 h2 => hiM_gap ⟨m, hm⟩ ⟨i, by omega⟩ hz ⟨x, by omega⟩ h1 (by show x < tz (hiM m i); omega))
      rw [show i + (t - i) = t by omega] at hgap hgap2
      have XF : Hid (∀ w, Tab w → Calls Ybad.prog 17 #[.int .u64 (spread (hiM m i))] w fun e w' => e = .returned (.int .i64 t) ∧ w = w') := fun w hw => by rw [ht]; exact (first_any (hiM m i) w hw f5 hz).mono fun e w' h => ⟨h.1, h.2.symm⟩
      have XD : Hid (∀ w, Calls Ybad.prog 16 #[.int .u64 (spread (hiM m i))] w fun e w' => e = .returned (.int .u64 (spread (hiM m (t + 1)))) ∧ w = w') := fun w => by
        have h := dropFirst_any (spread (hiM m i)) w s2 s3
        rw [f4, ← ht] at h
        exact h.mono fun e w' h => ⟨h.1, h.2.symm⟩
      have hdec : spread (hiM m (t + 1)) < spread (hiM m i) := by
        rw [ht, ← f4]
        exact Nat.lt_of_le_of_lt Nat.and_le_right (by omega)
      rw [← ht] at f1 f2 f3
      have XO : Hid (Only2 C G w wr) := hO
      have XRw : Hid (URow C G n (uW m H B (fun _ => 0) t) (uE m H B (fun _ => 0) V t) (uE m H B (fun _ => 0) K t) wr) := by show URow _ _ _ _ _ _ _; rw [hgap.1, hgap.2, hgap2.2]; exact hR
      have hlast' : lz = n ∨ (li < n ∧ lz = li ∧ wv = uW m H B (fun _ => 0) t li) := by rw [hgap.1]; exact hlast
      have hEr := XE.out.of hO XA.out.1 XA.out.2.1 XA.out.2.2.1 XA.out.2.2.2.1
      have hHt : H t < n := by rw [← XH.out.1 t]; exact homeOf_lt _ _ _ hn0
      have cP := hEr.pos t f2
      have htab := hEr.tab
      obtain ⟨cV, cK⟩ := hEr.src t f2
      have cC := XRw.out.ctl.cell hHt
      have fC := XRw.out.ctl.frozen (H t)
      simp only [ctlF] at cC
      obtain ⟨hq1, hq2⟩ := XI.out t (by omega) (H t)
      have k1 : cntN m H t (H t) < 8 := by omega
      have hbt := XH.out.2.2 t
      obtain ⟨ff1, ff2⟩ := filled_free hq2 k1
      have hcl := filled_lt hq2 k1
      obtain ⟨ll1, ll2⟩ := filled_len hq2 k1
      have eor := filled_or hq2 k1 hbt.2
      have XB : Hid (∀ W, Calls Ybad.prog 19 #[.int .u64 (ps t)] W fun e w' => e = .returned (.int .u8 (B t)) ∧ W = w') := fun W => by rw [← XH.out.2.1 t]; exact (fingerprint_any _ W).mono fun e w' h => ⟨h.1, h.2.symm⟩
      obtain ⟨x, hx⟩ : ∃ x, x = shifted (ps t) d := ⟨_, rfl⟩
      have hx2 : x < 18446744073709551616 := by rw [hx]; exact shifted_lt _ _
      have e2 := shl_eq (ps t) sh
      have e3 : ps t * 2 ^ sh % 18446744073709551616 = x := by rw [hx, HSh.out]; rfl
      rw [e3] at e2
      obtain ⟨r, hr⟩ : ∃ r, r = x * n % 18446744073709551616 := ⟨_, rfl⟩
      have XM : Hid (∀ W, Calls Ybad.prog 10 #[.int .u64 x, .int .u64 n] W fun e w' => e = .returned (.tuple #[.int .u64 (H t), .int .u64 r]) ∧ W = w') := fun W => by
        have h := mul64_any x n hx2 (by omega) W
        have e4 : x * n / 18446744073709551616 = H t := by rw [← XH.out.1 t, hx]; rfl
        rw [e4, ← hr] at h
        exact h.mono fun e w' h => ⟨h.1, h.2.symm⟩
      clear hr
      have XL : Hid (∀ W, Calls Ybad.prog 18 #[.int .u64 (uW m H B (fun _ => 0) t (H t))] W fun e w' => e = .returned (.int .i64 (Lib.bitLen (uW m H B (fun _ => 0) t (H t)))) ∧ W = w') := fun W => by
        have h := len64_any (uW m H B (fun _ => 0) t (H t)) W (by omega) (by omega)
        rw [Int.toNat_natCast] at h
        exact h.mono fun e w' h => ⟨h.1, h.2.symm⟩
      obtain ⟨k, hk⟩ : ∃ k, k = cntN m H t (H t) := ⟨_, rfl⟩
      rw [← hk] at k1 ll2 eor ff2
      have XS : Hid ((∀ j, uW m H B (fun _ => 0) (t + 1) j = if j = H t then withN (uW m H B (fun _ => 0) t (H t)) k (B t) else uW m H B (fun _ => 0) t j) ∧ (∀ j x, uE m H B (fun _ => 0) V (t + 1) j x = if j = H t ∧ x = k then V t else uE m H B (fun _ => 0) V t j x) ∧ (∀ j x, uE m H B (fun _ => 0) K (t + 1) j x = if j = H t ∧ x = k then K t else uE m H B (fun _ => 0) K t j x)) := by
        refine ⟨fun j => ?_, fun j x => ?_, fun j x => ?_⟩
        · rw [uW_yes f3]
          by_cases e : j = H t
          · subst e; rw [if_pos rfl, if_pos rfl, ff2]
          · rw [if_neg e, if_neg e]
        · rw [uE_yes f3, ff2]
        · rw [uE_yes f3, ff2]
      obtain ⟨u1, cG1⟩ : ∃ v, wr.cell? ⟨G, H t * 16 + 8 + k, none⟩ = some v := ⟨_, XRw.out.grp.cell (i := H t * 16 + 8 + k) (by omega)⟩
      obtain ⟨u2, cG2⟩ : ∃ v, wr.cell? ⟨G, H t * 16 + k, none⟩ = some v := ⟨_, XRw.out.grp.cell (i := H t * 16 + k) (by omega)⟩
      have fG1 := XRw.out.grp.frozen (H t * 16 + 8 + k)
      have fG2 := XRw.out.grp.frozen (H t * 16 + k)
      obtain ⟨aT, ag, aP, a0, aCG⟩ := XA.out
      have hbx : (((spread (hiM m i) : Nat) : Int) != 0) = true := by rw [bne_iff_ne]; omega
      generalize spread (hiM m i) = x at *
      generalize hy : spread (hiM m (t + 1)) = y at *
      have HY : Hid (spread (hiM m (t + 1)) = y) := hy
      clear hy
      generalize hcw : uW m H B (fun _ => 0) t (H t) = c at *
      generalize H t = j at *
      generalize B t = bt at *
      obtain ⟨L, hL⟩ : ∃ L, L = Lib.bitLen c := ⟨_, rfl⟩
      rw [← hL] at XL ll1 ll2
      obtain ⟨cw, hcw2⟩ : ∃ cw, cw = withN c k bt := ⟨_, rfl⟩
      rw [← hcw2] at eor
      have HW : Hid (cw = withN c k bt) := hcw2
      have HT : Hid (Tab wr) := htab
      have HL : Hid (lz = n ∨ (li < n ∧ lz = li ∧ wv = uW m H B (fun _ => 0) t li)) := hlast'
      have HC : Hid (uW m H B (fun _ => 0) t j = c) := hcw
      have ebt : IntKind.u64.wrap (bt : Int) = (bt : Int) := wrapLt bt (by omega)
      have hc56 : (c : Int) / 72057594037927936 = 0 := by omega
      clear hlast hO hR hgap hgap2 hz f3 f4 f5 ht hEr hk htab hlast' hcw hcw2 hL hx e3 hq1 hq2 ff1 ff2
      go_upto_if 74 with (first | (go_at_call 17; refine (XF.out _ HT.out).mono ?_; rintro e w' ⟨rfl, rfl⟩) | (go_at_call 10; refine (XM.out _).mono ?_; rintro e w' ⟨rfl, rfl⟩))
      go_cut [20] from 52 to 131 (fun cv wc => cv = .int .u64 c ∧ wr = wc)
      case first =>
        by_cases hj : (j : Int) = lz
        · have hb : ((j : Int) != lz) = false := by rw [bne_eq_false_iff_eq]; exact hj
          have hwc : wv = c := by
            rcases HL.out with h | ⟨_, h2, h3⟩
            · omega
            · rw [h3, ← HC.out, show li = j by omega]
          subst hwc
          clear hj
          go_wp2
          go_meet
          case rel => exact ⟨rfl, rfl⟩
        · have hb : ((j : Int) != lz) = true := by rw [bne_iff_ne]; exact hj
          clear hj
          go_wp2
          go_meet
          case rel => exact ⟨rfl, rfl⟩
      case rest =>
        obtain ⟨rfl, rfl⟩ := hcut
        go_wp2_with (first | (go_at_call 18; refine (XL.out _).mono ?_; rintro e w' ⟨rfl, rfl⟩) | (go_at_call 19; refine (XB.out _).mono ?_; rintro e w' ⟨rfl, rfl⟩))
        clear XF XM XL XB
        obtain ⟨W1, hW1⟩ : ∃ W1, W1 = wr.setCell ⟨C, j, none⟩ (.int .u64 cw) := ⟨_, rfl⟩
        have cV1 : W1.cell? ⟨g, t, none⟩ = some (.int .i64 (V t)) := by rw [hW1]; exact (World.cell?_of_block (Below.heap_setCell _ _ _ _ ag.1)).trans cV
        have cK1 : W1.cell? ⟨g, 8 + t, none⟩ = some (.int .i64 (K t)) := by rw [hW1]; exact (World.cell?_of_block (Below.heap_setCell _ _ _ _ ag.1)).trans cK
        have d1 : W1.cell? ⟨G, j * 16 + 8 + k, none⟩ = some u1 := by rw [hW1]; exact (World.cell?_of_block (Below.heap_setCell _ _ _ _ (fun h => aCG h.symm))).trans cG1
        have d2 : W1.cell? ⟨G, j * 16 + k, none⟩ = some u2 := by rw [hW1]; exact (World.cell?_of_block (Below.heap_setCell _ _ _ _ (fun h => aCG h.symm))).trans cG2
        have d3 : W1.frozen? ⟨G, j * 16 + 8 + k, none⟩ = false := by rw [hW1]; exact (World.frozen?_of_block (Below.heap_setCell _ _ _ _ (fun h => aCG h.symm))).trans fG1
        have d4 : W1.frozen? ⟨G, j * 16 + k, none⟩ = false := by rw [hW1]; exact (World.frozen?_of_block (Below.heap_setCell _ _ _ _ (fun h => aCG h.symm))).trans fG2
        have HW1 : Hid (W1 = wr.setCell ⟨C, j, none⟩ (.int .u64 cw)) := hW1
        rw [← hW1]
        clear hW1 cV cK cG1 cG2 fG1 fG2 cC fC cP
        have agG : g ≠ G := ag.2
        have i1 : (t : Int) < 8 := by omega
        have i2 : (k : Int) < 8 := by omega
        have q1 : (8 * (k : Int)).tdiv 8 = k := by rw [Int.tdiv_eq_ediv_of_nonneg (by omega)]; omega
        have q2 : IntKind.i64.wrap (k : Int) = k := by rw [IntKind.wrap_i64]; omega
        have q3 : (8 * (k : Int)) / 8 = k := by omega
        go_region_held3 (fun w' => w'.cell? ⟨g, t, none⟩ = some (.int .i64 (V t)) ∧ w'.cell? ⟨g, 8 + t, none⟩ = some (.int .i64 (K t))) (simp [*, go_sem]) (fail)
        clear cV1 cK1 d1 d2 d3 d4
        go_wp2_with (go_at_call 16; refine (XD.out _).mono ?_; rintro e w' ⟨rfl, rfl⟩)
        go_roundw
        case rel =>
          refine ⟨t + 1, j, cw, j, by omega, by rw [HY.out], rfl, rfl, rfl, .inr ⟨hHt, rfl, ?_⟩, ?_, ?_⟩
          · rw [XS.out.1, if_pos rfl]; exact HW.out
          · rw [HW1.out]
            exact (((XO.out.setC j _).setG _ _).setG _ _).drew
          · rw [HW1.out]
            have h := XRw.out.step aCG j k cw (K t) (V t) k1
            refine ⟨h.ctl.congr (fun z _ => ?_), h.grp.congr (fun z _ => ?_)⟩
            · simp only [ctlF, XS.out.1, HW.out]
            · simp only [grpF, XS.out.2.1, XS.out.2.2]
        case measure => simp [intOf]; omega
end Go.Proofs.YbulkbdtmDoor
