import Derived.Test.YbulkbdtmDoorModel
import Derived.Deep.Cut
import Derived.Deep.CutRange
import Derived.Deep.CutBlock
import Derived.Deep.RegionHeld3
namespace Go.Proofs.YbulkbdtmDoor
open Go.RowKit

/-- What the placing functions read: the table T (its control words C, its groups G, n of them, depth d), the group g, the positions P, the library's table. -/
structure Env (T C G g P n : Nat) (d : Int) (V K : Nat → Int) (ps : Nat → Nat) (w : World) : Prop where
  grpS : w.cell? ⟨T, 3, none⟩ = some (.slice (some ⟨G, 0, none⟩) n n)
  ctlS : w.cell? ⟨T, 4, none⟩ = some (.slice (some ⟨C, 0, none⟩) n n)
  dep : w.cell? ⟨T, 5, none⟩ = some (.int .i64 d)
  src : ∀ i, i < 8 → w.cell? ⟨g, i, none⟩ = some (.int .i64 (V i)) ∧ w.cell? ⟨g, 8 + i, none⟩ = some (.int .i64 (K i))
  pos : ∀ i, i < 8 → w.cell? ⟨P, i, none⟩ = some (.int .u64 (ps i))
  tab : Tab w
theorem Env.of {T C G g P n : Nat} {d : Int} {V K : Nat → Int} {ps : Nat → Nat} {w w' : World} (h : Env T C G g P n d V K ps w) (ho : Only2 C G w w') (hT : T ≠ C ∧ T ≠ G) (hg : g ≠ C ∧ g ≠ G) (hP : P ≠ C ∧ P ≠ G) (h0 : 0 ≠ C ∧ 0 ≠ G) :
    Env T C G g P n d V K ps w' where
  grpS := (ho.cell ⟨T, 3, none⟩ hT.1 hT.2).trans h.grpS
  ctlS := (ho.cell ⟨T, 4, none⟩ hT.1 hT.2).trans h.ctlS
  dep := (ho.cell ⟨T, 5, none⟩ hT.1 hT.2).trans h.dep
  src := fun i hi => ⟨(ho.cell ⟨g, i, none⟩ hg.1 hg.2).trans (h.src i hi).1, (ho.cell ⟨g, 8 + i, none⟩ hg.1 hg.2).trans (h.src i hi).2⟩
  pos := fun i hi => (ho.cell ⟨P, i, none⟩ hP.1 hP.2).trans (h.pos i hi)
  tab := fun j hj => (ho.cell ⟨0, j, none⟩ h0.1 h0.2).trans (h.tab j hj)

set_option maxHeartbeats 2000000 in
set_option maxRecDepth 100000 in
theorem placeGroup_any (T C G g P n : Nat) (d : Int) (V K : Nat → Int) (ps : Nat → Nat) (m : Nat) (W0 H B : Nat → Nat) (w : World) (hn0 : 0 < n) (hn : n ≤ 8) (hm : m < 256)
    (hE : Env T C G g P n d V K ps w) (hU : URow C G n W0 (fun _ _ => 0) (fun _ _ => 0) w) (hW : ∀ j, W0 j < 18446744073709551616)
    (hT : T ≠ C ∧ T ≠ G) (hg : g ≠ C ∧ g ≠ G) (hP : P ≠ C ∧ P ≠ G) (h0 : 0 ≠ C ∧ 0 ≠ G) (hCG : C ≠ G)
    (hH : ∀ i, homeOf (ps i) d n = H i) (hB : ∀ i, fpOf (ps i) = B i)
    (hroom : ∀ i, i < 8 → m.testBit i = true → freeM (uW m H B W0 i (H i)) ≠ 0) :
    Calls Ybad.prog 13 #[.pointer (some ⟨T, 0, none⟩), .pointer (some ⟨g, 0, none⟩), .int .u64 (spread m), .pointer (some ⟨P, 0, none⟩)] w fun e w' => e = .returned (.tuple #[]) ∧ Only2 C G w w' ∧
      URow C G n (uW m H B W0 8) (uE m H B W0 V 8) (uE m H B W0 K 8) w' := by
  have g3 := hE.grpS
  have g4 := hE.ctlS
  have XE : Hid (Env T C G g P n d V K ps w) := hE
  have XU : Hid (URow C G n W0 (fun _ _ => 0) (fun _ _ => 0) w) := hU
  have XA : Hid ((T ≠ C ∧ T ≠ G) ∧ (g ≠ C ∧ g ≠ G) ∧ (P ≠ C ∧ P ≠ G) ∧ (0 ≠ C ∧ 0 ≠ G) ∧ C ≠ G) := ⟨hT, hg, hP, h0, hCG⟩
  have XH : Hid ((∀ i, homeOf (ps i) d n = H i) ∧ (∀ i, fpOf (ps i) = B i)) := ⟨hH, hB⟩
  have XR : Hid (∀ i, i < 8 → m.testBit i = true → freeM (uW m H B W0 i (H i)) ≠ 0) := hroom
  have XW : Hid (∀ j, W0 j < 18446744073709551616) := hW
  clear hE hU hT hg hP h0 hCG hH hB hroom hW
  go_enter Ybad.func13, Ybad.ntmps13
  go_wp2
  go_quiet (fail)
  go_wp2_with fail
  clear g3 g4
  go_loopw [10, 11, 12] (fun l wd s wr => ∃ i li wv : Nat, ∃ lz : Int, i ≤ 8 ∧ s = .int .u64 (spread (hiM m i)) ∧ l = .int .i64 lz ∧ wd = .int .u64 wv ∧ (lz = -1 ∨ (li < n ∧ lz = (li : Int) ∧ wv = uW m H B W0 i li)) ∧ Only2 C G w wr ∧
      URow C G n (uW m H B W0 i) (uE m H B W0 V i) (uE m H B W0 K i) wr) (fun _ _ s _ => (intOf s).toNat)
  case atStart => exact ⟨0, 0, 0, -1, Nat.zero_le _, by rw [hiM_zero], rfl, rfl, .inl rfl, (Only2.refl _ _ _).drewN _, XU.out.drewN _⟩
  case round =>
    obtain ⟨i, li, wv, lz, hi, rfl, rfl, rfl, hlast, hO, hR⟩ := hrel
    by_cases hz : hiM m i = 0
    · have hb : (((spread (hiM m i) : Nat) : Int) != 0) = false := by rw [hz]; rfl
      have hgap := u_gap (m := m) (H := H) (B := B) (W0 := W0) (X := V) (i := i) (8 - i) (fun x h1 h2 => hiM_none ⟨m, hm⟩ ⟨i, by omega⟩ hz ⟨x, by omega⟩ h1)
      have hgap2 := u_gap (m := m) (H := H) (B := B) (W0 := W0) (X := K) (i := i) (8 - i) (fun x h1 h2 => hiM_none ⟨m, hm⟩ ⟨i, by omega⟩ hz ⟨x, by omega⟩ h1)
      rw [show i + (8 - i) = 8 by omega] at hgap hgap2
      have XF : Hid (Only2 C G w wr ∧ URow C G n (uW m H B W0 8) (uE m H B W0 V 8) (uE m H B W0 K 8) wr) := ⟨hO, by rw [hgap.1, hgap.2, hgap2.2]; exact hR⟩
      clear hgap hgap2 hO hR hlast
      go_wp2
      go_end0
      exact ⟨rfl, XF.out⟩
    · obtain ⟨t, ht⟩ : ∃ t, t = tz (hiM m i) := ⟨_, rfl⟩
      obtain ⟨f1, f2, f3, f4, f5⟩ := hiM_facts ⟨m, hm⟩ ⟨i, by omega⟩ hz
      dsimp only at f1 f2 f3 f4 f5
      have s2 : spread (hiM m i) ≠ 0 := (spread_facts ⟨hiM m i, f5⟩ hz).2.1
      have s3 : spread (hiM m i) < 18446744073709551616 := (spread_facts ⟨hiM m i, f5⟩ hz).2.2.1
      have hgap := u_gap (m := m) (H := H) (B := B) (W0 := W0) (X := V) (i := i) (t - i) (fun x h1 h2 => hiM_gap ⟨m, hm⟩ ⟨i, by omega⟩ hz ⟨x, by omega⟩ h1 (by show x < tz (hiM m i); omega))
      have hgap2 := u_gap (m := m) (H := H) (B := B) (W0 := W0) (X := K) (i := i) (t - i) (fun x h1 h2 => hiM_gap ⟨m, hm⟩ ⟨i, by omega⟩ hz ⟨x, by omega⟩ h1 (by show x < tz (hiM m i); omega))
      rw [show i + (t - i) = t by omega] at hgap hgap2
      have XF : Hid (∀ w, Tab w → Calls Ybad.prog 17 #[.int .u64 (spread (hiM m i))] w fun e w' => e = .returned (.int .i64 t) ∧ w = w') := fun w hw => by rw [ht]; exact (first_any (hiM m i) w hw f5 hz).mono fun e w' h => ⟨h.1, h.2.symm⟩
      have XD : Hid (∀ w, Calls Ybad.prog 16 #[.int .u64 (spread (hiM m i))] w fun e w' => e = .returned (.int .u64 (spread (hiM m (t + 1)))) ∧ w = w') := fun w => by
        have h := dropFirst_any (spread (hiM m i)) w s2 s3
        rw [f4, ← ht] at h
        exact h.mono fun e w' h => ⟨h.1, h.2.symm⟩
      have hdec : spread (hiM m (t + 1)) < spread (hiM m i) := by
        rw [ht, ← f4]
        exact Nat.lt_of_le_of_lt Nat.and_le_right (by omega)
      rw [← ht] at f1 f2 f3
      have XO : Hid (Only2 C G w wr) := hO
      have XRw : Hid (URow C G n (uW m H B W0 t) (uE m H B W0 V t) (uE m H B W0 K t) wr) := by show URow _ _ _ _ _ _ _; rw [hgap.1, hgap.2, hgap2.2]; exact hR
      have hlast' : lz = -1 ∨ (li < n ∧ lz = (li : Int) ∧ wv = uW m H B W0 t li) := by rw [hgap.1]; exact hlast
      have hEr := XE.out.of hO XA.out.1 XA.out.2.1 XA.out.2.2.1 XA.out.2.2.2.1
      have hHt : H t < n := by rw [← XH.out.1 t]; exact homeOf_lt _ _ _ hn0
      have cP := hEr.pos t f2
      have cT4 := hEr.ctlS
      have cT5 := hEr.dep
      have htab := hEr.tab
      obtain ⟨cV, cK⟩ := hEr.src t f2
      have cC := XRw.out.ctl.cell hHt
      have fC := XRw.out.ctl.frozen (H t)
      simp only [ctlF] at cC
      have hfree := XR.out t f2 f3
      have hcl := uW_lt (m := m) (H := H) (B := B) XW.out t (H t)
      have k1 := (free_first _ hfree).1
      have XHm : Hid (∀ W : World, W.cell? ⟨T, 4, none⟩ = some (.slice (some ⟨C, 0, none⟩) n n) → W.cell? ⟨T, 5, none⟩ = some (.int .i64 d) → Calls Ybad.prog 22 #[.pointer (some ⟨T, 4, none⟩), .int .u64 (ps t)] W fun e w' => e = .returned (.int .i64 (H t)) ∧ ∃ k, w' = W.drewN k) := fun W h4 h5 => by
        rw [← XH.out.1 t]; exact home_any T 4 (ps t) n _ n d W hn h4 h5
      have XM : Hid (∀ W, Calls Ybad.prog 23 #[.int .u64 (uW m H B W0 t (H t))] W fun e w' => e = .returned (.int .u64 (spread (freeM (uW m H B W0 t (H t))))) ∧ W = w') := fun W => (matchFree_any _ W hcl).mono fun e w' h => ⟨h.1, h.2.symm⟩
      have XK : Hid (∀ W, Tab W → Calls Ybad.prog 17 #[.int .u64 (spread (freeM (uW m H B W0 t (H t))))] W fun e w' => e = .returned (.int .i64 (tz (freeM (uW m H B W0 t (H t))))) ∧ W = w') := fun W hw => (first_any _ W hw (freeM_lt _) hfree).mono fun e w' h => ⟨h.1, h.2.symm⟩
      have XB : Hid (∀ W, Calls Ybad.prog 19 #[.int .u64 (ps t)] W fun e w' => e = .returned (.int .u8 (B t)) ∧ W = w') := fun W => by rw [← XH.out.2 t]; exact (fingerprint_any _ W).mono fun e w' h => ⟨h.1, h.2.symm⟩
      have hBt : B t < 256 := by rw [← XH.out.2 t]; exact (fpOf_range _).2
      obtain ⟨sf, hsf⟩ : ∃ sf, sf = spread (freeM (uW m H B W0 t (H t))) := ⟨_, rfl⟩
      have hsf0 : sf ≠ 0 := by rw [hsf]; exact (spread_facts ⟨_, freeM_lt _⟩ hfree).2.1
      obtain ⟨k, hk⟩ : ∃ k, k = tz (freeM (uW m H B W0 t (H t))) := ⟨_, rfl⟩
      have XWt : Hid (∀ W, Calls Ybad.prog 24 #[.int .u64 (uW m H B W0 t (H t)), .int .i64 k, .int .u8 (B t)] W fun e w' => e = .returned (.int .u64 (withN (uW m H B W0 t (H t)) k (B t))) ∧ W = w') := fun W => (with_any _ k (B t) W (by omega) hBt).mono fun e w' h => ⟨h.1, h.2.symm⟩
      rw [← hsf] at XM XK
      rw [← hk] at XK k1
      have XS : Hid ((∀ j, uW m H B W0 (t + 1) j = if j = H t then withN (uW m H B W0 t (H t)) k (B t) else uW m H B W0 t j) ∧ (∀ j x, uE m H B W0 V (t + 1) j x = if j = H t ∧ x = k then V t else uE m H B W0 V t j x) ∧ (∀ j x, uE m H B W0 K (t + 1) j x = if j = H t ∧ x = k then K t else uE m H B W0 K t j x)) := by
        refine ⟨fun j => ?_, fun j x => ?_, fun j x => ?_⟩
        · rw [uW_yes f3]
          by_cases e : j = H t
          · subst e; rw [if_pos rfl, if_pos rfl, hk]
          · rw [if_neg e, if_neg e]
        · rw [uE_yes f3, ← hk]
        · rw [uE_yes f3, ← hk]
      obtain ⟨u1, cG1⟩ : ∃ v, wr.cell? ⟨G, H t * 16 + 8 + k, none⟩ = some v := ⟨_, XRw.out.grp.cell (i := H t * 16 + 8 + k) (by omega)⟩
      obtain ⟨u2, cG2⟩ : ∃ v, wr.cell? ⟨G, H t * 16 + k, none⟩ = some v := ⟨_, XRw.out.grp.cell (i := H t * 16 + k) (by omega)⟩
      have fG1 := XRw.out.grp.frozen (H t * 16 + 8 + k)
      have fG2 := XRw.out.grp.frozen (H t * 16 + k)
      obtain ⟨aT, ag, aP, a0, aCG⟩ := XA.out
      have hbx : (((spread (hiM m i) : Nat) : Int) != 0) = true := by rw [bne_iff_ne]; omega
      have hsz : ((sf : Int) == 0) = false := beq_eq_false_iff_ne.2 (by omega)
      generalize spread (hiM m i) = x at *
      generalize hy : spread (hiM m (t + 1)) = y at *
      have HY : Hid (spread (hiM m (t + 1)) = y) := hy
      clear hy
      generalize hcw : uW m H B W0 t (H t) = c at *
      generalize H t = j at *
      generalize B t = bt at *
      have HT : Hid (Tab wr) := htab
      have HL : Hid (lz = -1 ∨ (li < n ∧ lz = (li : Int) ∧ wv = uW m H B W0 t li)) := hlast'
      have HC : Hid (uW m H B W0 t j = c) := hcw
      clear hlast hO hR hgap hgap2 hz f3 f4 f5 ht hEr hsf hk hfree htab hlast' hcw
      go_upto_if 48 with (first | (go_at_call 17; refine (XF.out _ HT.out).mono ?_; rintro e w' ⟨rfl, rfl⟩) | (go_at_call 22; refine (XHm.out _ (by exact cT4) (by exact cT5)).mono ?_; rintro e w1 ⟨rfl, kq, rfl⟩))
      go_cut [16] from 29 to 104 (fun cv wc => cv = .int .u64 c ∧ wc = wr.drewN kq)
      case first =>
        by_cases hj : (j : Int) = lz
        · have hb : ((j : Int) != lz) = false := by rw [bne_eq_false_iff_eq]; exact hj
          have hwc : wv = c := by
            rcases HL.out with h | ⟨_, h2, h3⟩
            · omega
            · rw [h3, ← HC.out, show li = j by omega]
          subst hwc
          clear hj
          go_wp2
          go_meet
          case rel => exact ⟨rfl, rfl⟩
        · have hb : ((j : Int) != lz) = true := by rw [bne_iff_ne]; exact hj
          clear hj
          go_wp2
          go_meet
          case rel => exact ⟨rfl, rfl⟩
      case rest =>
        obtain ⟨rfl, rfl⟩ := hcut
        go_wp2_with (first | (go_at_call 23; refine (XM.out _).mono ?_; rintro e w' ⟨rfl, rfl⟩) | (go_at_call 17; refine (XK.out _ (by exact HT.out)).mono ?_; rintro e w' ⟨rfl, rfl⟩) | (go_at_call 19; refine (XB.out _).mono ?_; rintro e w' ⟨rfl, rfl⟩) | (go_at_call 24; refine (XWt.out _).mono ?_; rintro e w' ⟨rfl, rfl⟩))
        clear XF XM XK XB XWt XHm
        obtain ⟨W1, hW1⟩ : ∃ W1, W1 = (wr.drewN kq).setCell ⟨C, j, none⟩ (.int .u64 (withN c k bt)) := ⟨_, rfl⟩
        have cV1 : W1.cell? ⟨g, t, none⟩ = some (.int .i64 (V t)) := by rw [hW1]; exact (World.cell?_of_block (Below.heap_setCell _ _ _ _ ag.1)).trans cV
        have cK1 : W1.cell? ⟨g, 8 + t, none⟩ = some (.int .i64 (K t)) := by rw [hW1]; exact (World.cell?_of_block (Below.heap_setCell _ _ _ _ ag.1)).trans cK
        have d1 : W1.cell? ⟨G, j * 16 + 8 + k, none⟩ = some u1 := by rw [hW1]; exact (World.cell?_of_block (Below.heap_setCell _ _ _ _ (fun h => aCG h.symm))).trans cG1
        have d2 : W1.cell? ⟨G, j * 16 + k, none⟩ = some u2 := by rw [hW1]; exact (World.cell?_of_block (Below.heap_setCell _ _ _ _ (fun h => aCG h.symm))).trans cG2
        have d3 : W1.frozen? ⟨G, j * 16 + 8 + k, none⟩ = false := by rw [hW1]; exact (World.frozen?_of_block (Below.heap_setCell _ _ _ _ (fun h => aCG h.symm))).trans fG1
        have d4 : W1.frozen? ⟨G, j * 16 + k, none⟩ = false := by rw [hW1]; exact (World.frozen?_of_block (Below.heap_setCell _ _ _ _ (fun h => aCG h.symm))).trans fG2
        have HW1 : Hid (W1 = (wr.drewN kq).setCell ⟨C, j, none⟩ (.int .u64 (withN c k bt))) := hW1
        rw [← hW1]
        clear hW1 cV cK cG1 cG2 fG1 fG2 cC fC cT4 cT5 cP
        have agG : g ≠ G := ag.2
        have i1 : (t : Int) < 8 := by omega
        have i2 : (k : Int) < 8 := by omega
        go_region_held3 (fun w' => w'.cell? ⟨g, t, none⟩ = some (.int .i64 (V t)) ∧ w'.cell? ⟨g, 8 + t, none⟩ = some (.int .i64 (K t))) (simp [*, go_sem]) (fail)
        clear cV1 cK1 d1 d2 d3 d4
        go_wp2_with (go_at_call 16; refine (XD.out _).mono ?_; rintro e w' ⟨rfl, rfl⟩)
        go_roundw
        case rel =>
          refine ⟨t + 1, j, withN c k bt, (j : Int), by omega, by rw [HY.out], rfl, rfl, .inr ⟨hHt, rfl, ?_⟩, ?_, ?_⟩
          · rw [XS.out.1, if_pos rfl]
          · rw [HW1.out]
            exact ((((XO.out.drewN kq).setC j _).setG _ _).setG _ _).drew
          · rw [HW1.out]
            have h := (XRw.out.drewN kq).step aCG j k (withN c k bt) (K t) (V t) k1
            refine ⟨h.ctl.congr (fun z _ => ?_), h.grp.congr (fun z _ => ?_)⟩
            · simp only [ctlF, XS.out.1]
            · simp only [grpF, XS.out.2.1, XS.out.2.2]
        case measure => simp [intOf]; omega
end Go.Proofs.YbulkbdtmDoor
