/-
  (*torrent).put.
-/
import Derived.Test.YbulkbdskDoorFin
import Derived.Deep.CutBlock
namespace Go.Proofs.YbulkbdskDoor
open Go Go.RowKit

set_option maxHeartbeats 20000000 in
set_option maxRecDepth 100000 in
theorem put_any (g ab n dl id port s : Nat) (dn ev br : Bool) (key : Int) (db : Option Addr) (v : Value) (pf : Nat → Peer) (w : World) (h : St w g v pf n dl) (ha : w.rowIs ab 54 83 (acell id port dn ev)) (hid : id < 4) (hport : port < 3) (hs : s < 1024) (hdl : dl < 4096) :
    Calls Ybad.prog 7 #[.pointer (some ⟨g + 4, 0, none⟩), .pointer db, .pointer (some ⟨ab, 0, none⟩), .bool br, .int .u64 key, .agg #[.int .u64 (s : Int), .int .i64 0, .pointer none]] w fun e w' =>
      ∃ (i n' dl' : Nat) (pf' : Nat → Peer) (v' : Value), e = .returned (.int .i64 (i : Int)) ∧ Fr g TY w w' ∧ St w' g v' pf' n' dl' ∧ PutPost pf n dl id port dn ev br s pf' n' dl' i := by
  have XA : Hid (w.rowIs ab 54 83 (acell id port dn ev) ∧ St w g v pf n dl ∧ id < 4 ∧ port < 3 ∧ s < 1024 ∧ dl < 4096) := ⟨ha, h, hid, hport, hs, hdl⟩
  obtain ⟨tx, htx⟩ : ∃ tx, w.heap.size = tx := ⟨_, rfl⟩
  clear h ha hid hport hs hdl
  go_enter Ybad.func7, Ybad.ntmps7
  go_upto_region 1 with fail
  refine wp_world ?_
  intro V hV
  have XE : Hid (En w V g ab tx id port s dn ev ∧ St V g v pf n dl) := by
    have hT : Turn [] w V := by rw [hV]; exact (Turn.refl [] w).alloc _
    have r := row_new w #[.int .u64 (s : Int), .int .i64 0, .pointer none] 57
    rw [htx] at r
    refine ⟨⟨frN hT, hT.row XA.out.1 (by simp), ?_⟩, XA.out.2.1.new hT⟩
    rw [hV]
    refine r.congr (fun k hk => ?_)
    have hk : k < 3 := hk
    obtain rfl | rfl | rfl : k = 0 ∨ k = 1 ∨ k = 2 := by omega
    all_goals rfl
  clear hV
  obtain ⟨c0, c8, c9, c16, hfz, hn3⟩ := XE.out.2.cells
  have XL : Hid (∀ m, (loadVar 48 ⟨ab, 40, none⟩).run Ybad.prog (V.drewN m) = .ok (epV port) (V.drewN m)) := fun m => ann_ep (drewN_row XE.out.1.ann m)
  go_cut [13, 14] from 20 to 31 (fun x b wc => (En w wc g ab tx id port s dn ev ∧ St wc g v pf n dl) ∧ ((b = .bool true ∧ ∃ j, j < n ∧ x = .int .i64 (j : Int) ∧ (pf j).port = port) ∨ (b = .bool false ∧ ∀ j, j < n → (pf j).port ≠ port)))
  case first =>
    rcases XE.out.2.ep XA.out.2.2.2.1 with ⟨j, hj, hp, hl⟩ | ⟨hn, hl⟩
    · refine wp_region_quiet_lit (by kernel_rfl) (by kernel_rfl) ?_
      iterate 7 (go_big_quiet_step (fail))
      refine wpQuiet_value 28 rfl (by kernel_rfl) (fun m => exec_load rfl rfl (XL.out m)) ?_
      go_frame
      refine wpQuiet_value 29 rfl (by kernel_rfl) (fun m => exec_lookup rfl rfl rfl (hl m)) ?_
      go_frame
      iterate 5 (go_big_quiet_step (fail))
      refine wpQuiet_nil ?_
      intro _ hw'
      obtain ⟨nq, hw''⟩ := hw'
      subst hw''
      go_wp2_with fail
      go_meet
      case rel => exact ⟨⟨XE.out.1.go (frN ((Turn.refl [] V).drewN nq)), XE.out.2.new ((Turn.refl [] V).drewN nq)⟩, .inl ⟨rfl, j, hj, rfl, hp⟩⟩
    · refine wp_region_quiet_lit (by kernel_rfl) (by kernel_rfl) ?_
      iterate 7 (go_big_quiet_step (fail))
      refine wpQuiet_value 28 rfl (by kernel_rfl) (fun m => exec_load rfl rfl (XL.out m)) ?_
      go_frame
      refine wpQuiet_value 29 rfl (by kernel_rfl) (fun m => exec_lookup rfl rfl rfl (hl m)) ?_
      go_frame
      iterate 5 (go_big_quiet_step (fail))
      refine wpQuiet_nil ?_
      intro _ hw'
      obtain ⟨nq, hw''⟩ := hw'
      subst hw''
      go_wp2_with fail
      go_meet
      case rel => exact ⟨⟨XE.out.1.go (frN ((Turn.refl [] V).drewN nq)), XE.out.2.new ((Turn.refl [] V).drewN nq)⟩, .inr ⟨rfl, hn⟩⟩
  case rest =>
  obtain ⟨V2, hV2⟩ : ∃ V2, V2 = wc := ⟨_, rfl⟩
  rw [← hV2] at hcut ⊢
  clear hV2 XL XE c0 c8 c9 c16 hfz
  have XC : Hid ((En w V2 g ab tx id port s dn ev ∧ St V2 g v pf n dl) ∧ ((u14 = .bool true ∧ ∃ j, j < n ∧ u13 = .int .i64 (j : Int) ∧ (pf j).port = port) ∨ (u14 = .bool false ∧ ∀ j, j < n → (pf j).port ≠ port))) := hcut
  clear hcut
  go_upto_region 2 with fail
  go_cut [13, 47] from 32 to 47 (fun x b wc => (En w wc g ab tx id port s dn ev ∧ St wc g v pf n dl) ∧ ((b = .bool true ∧ ∃ j, j < n ∧ x = .int .i64 (j : Int) ∧ (pf j).port = port ∧ (pf j).id ≠ id) ∨ (b = .bool false ∧ ∀ j, j < n → (pf j).port = port → (pf j).id = id)))
  case first =>
    obtain ⟨⟨hE, hS⟩, ⟨rfl, j, hj, rfl, hp⟩ | ⟨rfl, hn⟩⟩ := XC.out
    · obtain ⟨pb, cap, F, S, hv, hcap⟩ := hS.slot (by omega)
      have c0 := hS.cells.1
      rw [hv] at c0
      have XL1 : Hid (∀ m, (loadVar 50 ⟨pb, j * 61, none⟩).run Ybad.prog (V2.drewN m) = .ok (idV (pf j).id) (V2.drewN m)) := fun m => loadv_id (fun k hk => (S.of (drewN_row S.row m)).cell hj hk)
      have XL2 : Hid (∀ m, (loadVar 50 ⟨ab, 20, none⟩).run Ybad.prog (V2.drewN m) = .ok (idV id) (V2.drewN m)) := fun m => ann_id (drewN_row hE.ann m)
      have XN : Hid (∀ m, (binOp .neq 50 (idV (pf j).id) (idV id)).run Ybad.prog (V2.drewN m) = .ok (.bool (decide ((pf j).id ≠ id))) (V2.drewN m)) := fun m => neq50 _ _ (hS.ok j hj).1 XA.out.2.2.1 _
      have XH : Hid ((En w V2 g ab tx id port s dn ev ∧ St V2 g v pf n dl) ∧ (pf j).port = port) := ⟨⟨hE, hS⟩, hp⟩
      clear hE hS S hv hp XC
      refine wp_region_quiet_lit (by kernel_rfl) (by kernel_rfl) ?_
      iterate 9 (go_big_quiet_step (fail))
      refine wpQuiet_value 41 rfl (by kernel_rfl) (fun m => exec_load rfl rfl (XL1.out m)) ?_
      go_frame
      iterate 3 (go_big_quiet_step (fail))
      refine wpQuiet_value 45 rfl (by kernel_rfl) (fun m => exec_load rfl rfl (XL2.out m)) ?_
      go_frame
      refine wpQuiet_value 46 rfl (by kernel_rfl) (fun m => exec_neq rfl rfl rfl (guard50 _ _ _ _ _) (XN.out m)) ?_
      go_frame
      iterate 1 (go_big_quiet_step (fail))
      refine wpQuiet_nil ?_
      intro _ hw'
      obtain ⟨nq, hw''⟩ := hw'
      subst hw''
      go_wp2_with fail
      go_meet
      case rel =>
        refine ⟨⟨XH.out.1.1.go (frN ((Turn.refl [] V2).drewN nq)), XH.out.1.2.new ((Turn.refl [] V2).drewN nq)⟩, ?_⟩
        by_cases e : (pf j).id = id
        · refine .inr ⟨by simp [e], fun k hk hk' => ?_⟩
          obtain ⟨tf, fi, fe, _, _, _, hle⟩ := XH.out.1.2
          obtain rfl := hle.inj hk hj (hk'.trans XH.out.2.symm)
          exact e
        · exact .inl ⟨by simp [e], j, hj, rfl, XH.out.2, e⟩
    · clear XC
      have XH : Hid ((En w V2 g ab tx id port s dn ev ∧ St V2 g v pf n dl) ∧ ∀ j, j < n → (pf j).port ≠ port) := ⟨⟨hE, hS⟩, hn⟩
      clear hE hS hn
      refine wp_region_quiet_lit (by kernel_rfl) (by kernel_rfl) ?_
      iterate 16 (go_big_quiet_step (fail))
      refine wpQuiet_nil ?_
      intro _ hw'
      obtain ⟨nq, hw''⟩ := hw'
      subst hw''
      go_wp2_with fail
      go_meet
      case rel => exact ⟨⟨XH.out.1.1.go (frN ((Turn.refl [] V2).drewN nq)), XH.out.1.2.new ((Turn.refl [] V2).drewN nq)⟩, .inr ⟨rfl, fun j hj e => absurd e (XH.out.2 j hj)⟩⟩
  case rest =>
  obtain ⟨V3, hV3⟩ : ∃ V3, V3 = wc := ⟨_, rfl⟩
  rw [← hV3] at hcut ⊢
  clear hV3 XC
  have XC : Hid ((En w V3 g ab tx id port s dn ev ∧ St V3 g v pf n dl) ∧ ((u47 = .bool true ∧ ∃ j, j < n ∧ u13 = .int .i64 (j : Int) ∧ (pf j).port = port ∧ (pf j).id ≠ id) ∨ (u47 = .bool false ∧ ∀ j, j < n → (pf j).port = port → (pf j).id = id))) := hcut
  clear hcut
  go_upto_if 47 with fail
  go_cut [] from 48 to 50 (fun wc => En w wc g ab tx id port s dn ev ∧ ∃ v1 pf1 n1, St wc g v1 pf1 n1 dl ∧ PA pf n pf1 n1 id port)
  case first =>
    obtain ⟨⟨hE, hS⟩, ⟨rfl, j, hj, rfl, hp, hne⟩ | ⟨rfl, hn⟩⟩ := XC.out
    · obtain ⟨l, rfl⟩ : ∃ l, n = l + 1 := ⟨n - 1, by omega⟩
      have X15 : Hid (Calls Ybad.prog 15 #[.pointer (some ⟨g + 4, 0, none⟩), .int .i64 (j : Int)] V3 fun e w' => e = .returned (.tuple #[]) ∧ Hid (En w w' g ab tx id port s dn ev ∧ ∃ v1 pf1 n1, St w' g v1 pf1 n1 dl ∧ PA pf (l + 1) pf1 n1 id port)) := by
        refine (trem_st g j l dl v pf V3 hS hj).mono ?_
        rintro e w' ⟨rfl, hF, v', hS'⟩
        obtain ⟨tf, fi, fe, hv, T, hli, hle⟩ := hS
        exact ⟨rfl, hE.go hF, v', _, _, hS', PA.evict hle hj hp hne⟩
      clear hE hS hp hne XC
      go_wp2_with (go_at_call 15; refine X15.out.mono ?_; rintro e w4 ⟨rfl, H4⟩)
      go_meet
      case rel => exact H4.out
    · go_wp2_with fail
      go_meet
      case rel => exact ⟨hE, v, pf, n, hS, PA.same hn⟩
  case rest =>
  obtain ⟨V4, hV4⟩ : ∃ V4, V4 = wc := ⟨_, rfl⟩
  rw [← hV4] at hcut ⊢
  clear hV4 XC
  obtain ⟨hE, v1, pf1, n1, hS, hP⟩ := hcut
  have XE : Hid (En w V4 g ab tx id port s dn ev ∧ St V4 g v1 pf1 n1 dl ∧ PA pf n pf1 n1 id port) := ⟨hE, hS, hP⟩
  clear hE hS hP
  obtain ⟨c0, c8, c9, c16, hfz, hn3⟩ := XE.out.2.1.cells
  have XL : Hid (∀ m, (loadVar 50 ⟨ab, 20, none⟩).run Ybad.prog (V4.drewN m) = .ok (idV id) (V4.drewN m)) := fun m => ann_id (drewN_row XE.out.1.ann m)
  go_upto_region 4 with fail
  go_cut [15, 16] from 51 to 62 (fun x b wc => (En w wc g ab tx id port s dn ev ∧ St wc g v1 pf1 n1 dl ∧ PA pf n pf1 n1 id port) ∧ ((b = .bool true ∧ ∃ j, j < n1 ∧ x = .int .i64 (j : Int) ∧ (pf1 j).id = id) ∨ (b = .bool false ∧ ∀ j, j < n1 → (pf1 j).id ≠ id)))
  case first =>
    rcases XE.out.2.1.id XA.out.2.2.1 with ⟨j, hj, hp, hl⟩ | ⟨hn, hl⟩
    · refine wp_region_quiet_lit (by kernel_rfl) (by kernel_rfl) ?_
      iterate 7 (go_big_quiet_step (fail))
      refine wpQuiet_value 59 rfl (by kernel_rfl) (fun m => exec_load rfl rfl (XL.out m)) ?_
      go_frame
      refine wpQuiet_value 60 rfl (by kernel_rfl) (fun m => exec_lookup rfl rfl rfl (hl m)) ?_
      go_frame
      iterate 5 (go_big_quiet_step (fail))
      refine wpQuiet_nil ?_
      intro _ hw'
      obtain ⟨nq, hw''⟩ := hw'
      subst hw''
      go_wp2_with fail
      go_meet
      case rel => exact ⟨⟨XE.out.1.go (frN ((Turn.refl [] V4).drewN nq)), XE.out.2.1.new ((Turn.refl [] V4).drewN nq), XE.out.2.2⟩, .inl ⟨rfl, j, hj, rfl, hp⟩⟩
    · refine wp_region_quiet_lit (by kernel_rfl) (by kernel_rfl) ?_
      iterate 7 (go_big_quiet_step (fail))
      refine wpQuiet_value 59 rfl (by kernel_rfl) (fun m => exec_load rfl rfl (XL.out m)) ?_
      go_frame
      refine wpQuiet_value 60 rfl (by kernel_rfl) (fun m => exec_lookup rfl rfl rfl (hl m)) ?_
      go_frame
      iterate 5 (go_big_quiet_step (fail))
      refine wpQuiet_nil ?_
      intro _ hw'
      obtain ⟨nq, hw''⟩ := hw'
      subst hw''
      go_wp2_with fail
      go_meet
      case rel => exact ⟨⟨XE.out.1.go (frN ((Turn.refl [] V4).drewN nq)), XE.out.2.1.new ((Turn.refl [] V4).drewN nq), XE.out.2.2⟩, .inr ⟨rfl, hn⟩⟩
  case rest =>
  obtain ⟨V5, hV5⟩ : ∃ V5, V5 = wc := ⟨_, rfl⟩
  rw [← hV5] at hcut ⊢
  clear hV5 XE XL c0 c8 c9 c16 hfz hn3
  obtain ⟨⟨hE, hS, hP⟩, hb⟩ := hcut
  obtain ⟨kn, rfl, hk⟩ : ∃ kn : Bool, u16 = .bool kn ∧ ((kn = true ∧ ∃ j, j < n1 ∧ u15 = .int .i64 (j : Int) ∧ (pf1 j).id = id) ∨ (kn = false ∧ ∀ j, j < n1 → (pf1 j).id ≠ id)) := by
    rcases hb with ⟨h1, h2⟩ | ⟨h1, h2⟩
    · exact ⟨true, h1, .inl ⟨rfl, h2⟩⟩
    · exact ⟨false, h1, .inr ⟨rfl, h2⟩⟩
  have XC : Hid ((kn = true ∧ ∃ j, j < n1 ∧ u15 = .int .i64 (j : Int) ∧ (pf1 j).id = id) ∨ (kn = false ∧ ∀ j, j < n1 → (pf1 j).id ≠ id)) := hk
  have XE : Hid (En w V5 g ab tx id port s dn ev ∧ St V5 g v1 pf1 n1 dl) := ⟨hE, hS⟩
  have XP : Hid (PA pf n pf1 n1 id port ∧ (∀ a b, a < n1 → b < n1 → (pf1 a).id = (pf1 b).id → a = b)) := ⟨hP, by
    obtain ⟨tf, fi, fe, _, _, hli, _⟩ := hS
    exact fun a b ha hb => hli.inj ha hb⟩
  clear hE hS hP hb hk
  go_upto_if 64 with fail
  go_cut [15, 16, 63, 64] from 65 to 108 (fun x k _ _ wc => En w wc g ab tx id port s dn ev ∧ ((k = .bool true ∧ ∃ j, j < n1 ∧ x = .int .i64 (j : Int) ∧ (pf1 j).id = id ∧ St wc g v1 pf1 n1 dl) ∨ (k = .bool false ∧ x = .int .i64 (n1 : Int) ∧ (∀ j, j < n1 → (pf1 j).id ≠ id) ∧ ∃ v2, Det wc g v2 (upd pf1 n1 (fresh id br)) n1 n1 dl)))
  case first =>
    rcases XC.out with ⟨rfl, j, hj, rfl, hji⟩ | ⟨rfl, hne⟩
    · go_wp2_with fail
      go_meet
      case rel => exact ⟨XE.out.1, .inl ⟨rfl, j, hj, rfl, hji, XE.out.2⟩⟩
    · obtain ⟨ao, cap, hv⟩ := XE.out.2.form
      have c0 := XE.out.2.cells.1
      rw [hv] at c0
      have XN : Hid (∀ j, j < n1 → (pf1 j).id ≠ id) := hne
      obtain ⟨tf, fi, fe, ht0, T, hli, hle⟩ := XE.out.2
      have hn3 : n1 < 3 := room hle T.small (fun j hj => (T.ok j hj).2.1) XA.out.2.2.2.1 (fun j hj e => hne j hj (XP.out.1.free j hj e))
      obtain ⟨v', w8, e8, r8, hF9, T9⟩ := tappend (T.new (Turn.refl [] V5).drew) hn3 (fresh id br) ⟨XA.out.2.2.1, Nat.zero_lt_succ _, Nat.zero_lt_succ _⟩
      rw [ht0, hv] at e8
      have XAP : Hid (∀ ty, (Builtin.append_ #[61, 61] ty #[.slice ao n1 cap, .slice (some ⟨V5.heap.size, 0, none⟩) 1 1]).run Ybad.prog (V5.drew.alloc (.cells (pcs (fresh id br)).toArray 77)) = .ok v' w8) := e8
      obtain ⟨ao', cap', hv'⟩ := T9.ps.form
      have hv' : v' = .slice ao' (n1 + 1) cap' := hv'
      subst hv'
      have c8 := r8.cell (i := 0) (by omega)
      have n8 := r8.frozen 0
      rw [ht0, hv] at c8
      have X9 : Hid (En w (w8.setCell ⟨g + 4, 0, none⟩ (.slice ao' (n1 + 1) cap')) g ab tx id port s dn ev ∧ ∃ tf, Tor (w8.setCell ⟨g + 4, 0, none⟩ (.slice ao' (n1 + 1) cap')) g tf (upd pf1 n1 (fresh id br)) (n1 + 1) n1 (cnt Peer.done pf1 n1) dl (cnt Peer.br pf1 n1) n1 fi fe n1 n1) := ⟨(XE.out.1.go (frN (Turn.refl [] V5).drew)).go hF9, _, T9⟩
      have XL1 : Hid ((loadVar 50 ⟨ab, 20, none⟩).run Ybad.prog V5.drew = .ok (idV id) V5.drew) := ann_id XE.out.1.ann
      have XL2 : Hid ((loadVar 52 ⟨ab, 44, none⟩).run Ybad.prog V5.drew = .ok (.agg k32) V5.drew) := ann_key XE.out.1.ann
      have XB := build_peer id XA.out.2.2.1 br V5.drew
      have XS := buildSlice_peer id XA.out.2.2.1 br V5.drew
      have XB : Hid _ := XB
      have XS : Hid _ := XS
      have XLK : Hid (Look Peer.id pf1 n1 fi ∧ Look Peer.port pf1 n1 fe) := ⟨hli, hle⟩
      have YC : Hid (V5.drew.cell? ⟨g + 4, 0, none⟩ = some (.slice ao n1 cap) ∧ (V5.drew.alloc (.cells (pcs (fresh id br)).toArray 77)).cell? ⟨g + 4, 0, none⟩ = some (.slice ao n1 cap)) := ⟨c0, by
        rw [(T.row.drew.alloc _).cell (by omega), ht0, hv]⟩
      clear hv hne XC T ht0 e8 hF9 T9 r8 hli hle
      go_upto_region 7 with fail
      refine wp_only ?_
      refine wp_region_app 5 15 (fun W => W.cell? ⟨g + 4, 0, none⟩ = some (.slice ao n1 cap)) mixed (by kernel_rfl) (fun _ _ _ _ _ h => h) YC.out.1 ?_
      simp only [List.take_succ_cons, List.take_zero, List.drop_succ_cons, List.drop_zero, Nat.reduceSub]
      refine wpEarly_value 70 (v := .pointer (some ⟨g + 4, 0, none⟩)) rfl (by kernel_rfl) (fun W hW => BigFrame.run_move (.tmp 0) rfl W) ?_
      go_frame
      refine wpEarly_value 71 (v := .pointer (some ⟨g + 4, 0, none⟩)) rfl (by kernel_rfl) (fun W hW => BigFrame.run_move (.tmp 0) rfl W) ?_
      go_frame
      refine wpEarly_value 72 (v := .pointer (some ⟨g + 4, 0, none⟩)) rfl (by kernel_rfl) (fun W hW => by go_simp) ?_
      go_frame
      refine wpEarly_value 73 (v := .pointer (some ⟨g + 4, 0, none⟩)) rfl (by kernel_rfl) (fun W hW => by go_simp) ?_
      go_frame
      refine wpEarly_value 74 (v := .slice ao n1 cap) rfl (by kernel_rfl) (fun W hW => by go_simp) ?_
      go_frame
      refine wpEarly_nil ?_
      iterate 3 still_step
      refine wpStill_value 78 rfl rfl (exec_load rfl rfl XL1.out) ?_
      go_frame
      iterate 3 still_step
      refine wpStill_value 82 rfl rfl (exec_load rfl rfl XL2.out) ?_
      go_frame
      still_step
      refine wpStill_value 84 rfl rfl (exec_buildL (ps := [(0, idV id), (1, .agg k32), (5, .bool br)]) rfl rfl XB.out) ?_
      go_frame
      refine wpStill_nil ?_
      unfold tail5
      refine wpOp_value 85 (w' := V5.drew.alloc (.cells (pcs (fresh id br)).toArray 77)) (v := .slice (some ⟨V5.heap.size, 0, none⟩) 1 1) rfl rfl rfl (exec_buildSliceL (ps := [(0, .agg (pcs (fresh id br)).toArray)]) rfl rfl XS.out) ⟨YC.out.2, ?_⟩
      go_frame
      refine wpOp_value 86 (w' := w8) (v := .slice ao' (n1 + 1) cap') rfl rfl rfl (exec_append rfl rfl rfl XAP.out) ⟨c8, ?_⟩
      go_frame
      refine wpOp_value 87 (w' := w8) (v := .pointer (some ⟨g + 4, 0, none⟩)) rfl rfl rfl (by go_simp) ?_
      go_frame
      refine wpOp_value 88 (w' := w8) (v := .pointer (some ⟨g + 4, 0, none⟩)) rfl rfl rfl (by go_simp) ?_
      go_frame
      refine wpOp_skip (w' := w8.setCell ⟨g + 4, 0, none⟩ (.slice ao' (n1 + 1) cap')) rfl rfl rfl (exec_store rfl rfl rfl (by go_simp)) ?_
      refine then_only ?_
      refine q_world ?_
      intro V9 hV9
      rw [← hV9] at X9
      clear hV9 c8 n8 XAP XB XS YC XL1 XL2 c0
      have X16 : Hid (Calls Ybad.prog 16 #[.pointer (some ⟨g + 4, 1, none⟩), .agg #[.int .u64 0, .int .u64 0, .pointer none, .int .u8 0, .int .u32 0, .string ⟨#[]⟩, .string ⟨#[]⟩, .string ⟨#[]⟩, .int .u8 0]] V9 fun e w' => e = .returned (.tuple #[]) ∧ Hid (En w w' g ab tx id port s dn ev ∧ ∃ tf, Tor w' g tf (upd pf1 n1 (fresh id br)) (n1 + 1) (n1 + 1) (cnt Peer.done pf1 n1) dl (cnt Peer.br pf1 n1) n1 fi fe n1 n1)) := by
        obtain ⟨hE, tf, T⟩ := X9.out
        refine (add_any (g + 4) n1 tf V9 T.ix hn3).mono ?_
        rintro e w' ⟨rfl, hF, tf', ht, hx⟩
        exact ⟨rfl, hE.go (frY hF), tf', T.index hF hx ht⟩
      have X17 : Hid (∀ W, (En w W g ab tx id port s dn ev ∧ ∃ tf, Tor W g tf (upd pf1 n1 (fresh id br)) (n1 + 1) (n1 + 1) (cnt Peer.done pf1 n1) dl (cnt Peer.br pf1 n1) n1 fi fe n1 n1) → Calls Ybad.prog 17 #[.pointer (some ⟨g + 4, 1, none⟩), .int .i64 (n1 : Int), .int .u64 key] W fun e w' => e = .returned (.tuple #[]) ∧
          ∃ W', Hid (En w W' g ab tx id port s dn ev ∧ ∃ v2, Det W' g v2 (upd pf1 n1 (fresh id br)) n1 n1 dl) ∧ Hid ((Instr.mapUpdate 71 (.map (some (g + 1))) (idV id) (.int .i64 (n1 : Int))).run Ybad.prog w'.drew = .ok () W' ∧ (loadVar 50 ⟨ab, 20, none⟩).run Ybad.prog w'.drew = .ok (idV id) w'.drew) ∧ w'.cell? ⟨g + 4, 8, none⟩ = some (.map (some (g + 1)))) := by
        rintro W ⟨hE, tf, T⟩
        refine (setKey_any (g + 4) n1 (n1 + 1) key tf W T.ix (by omega)).mono ?_
        rintro e w' ⟨rfl, hF, tf', ht, hx⟩
        have T' := T.index hF hx (fun k hk => ht k (by omega) (by omega))
        have hE' := hE.go (frY hF)
        obtain ⟨W', e1, hF1, v2, hD⟩ := det_push T' XA.out.2.2.1 XLK.out.1 XLK.out.2 XN.out
        exact ⟨rfl, W', ⟨hE'.go hF1, v2, hD⟩, ⟨e1, ann_id hE'.ann.drew⟩, by rw [T'.row.cell (by omega), T'.t8]⟩
      clear X9
      go_upto_region 10 with (first | (go_at_call 16; refine X16.out.mono ?_; rintro e wa ⟨rfl, Ha⟩) | (go_at_call 17; refine (X17.out _ Ha.out).mono ?_; rintro e wb ⟨rfl, W', Hb, Hl, b8⟩))
      refine wp_region_still_tail 9 mixed (by kernel_rfl) ?_
      simp only [List.take_succ_cons, List.take_zero, List.drop_succ_cons, List.drop_zero]
      iterate 7 still_step
      refine wpStill_value 107 rfl rfl (exec_load rfl rfl Hl.out.2) ?_
      go_frame
      still_step
      refine wpStill_nil ?_
      refine wpList_mapUpdate_raw rfl (.tmp 103) (.tmp 107) (.tmp 108) 71 rfl _ _ _ _ rfl rfl rfl Hl.out.1 ?_
      go_wp2_with fail
      go_meet
      case rel => exact ⟨Hb.out.1, .inr ⟨rfl, rfl, XN.out, Hb.out.2⟩⟩
  case rest =>
  obtain ⟨V6, hV6⟩ : ∃ V6, V6 = wc := ⟨_, rfl⟩
  rw [← hV6] at hcut ⊢
  clear hV6 XC XE
  obtain ⟨hE, hk⟩ := hcut
  obtain ⟨kq, i, pf2, n2, v2, rfl, rfl, hM, hX⟩ : ∃ (kq : Bool) (i : Nat) (pf2 : Nat → Peer) (n2 : Nat) (v2 : Value), u16 = .bool kq ∧ u15 = .int .i64 (i : Int) ∧ Mid2 kq V6 g v2 pf2 n2 i dl ∧ ((kq = true ∧ pf2 = pf1 ∧ n2 = n1 ∧ (pf1 i).id = id) ∨ (kq = false ∧ pf2 = upd pf1 n1 (fresh id br) ∧ n2 = n1 + 1 ∧ i = n1 ∧ ∀ j, j < n1 → (pf1 j).id ≠ id)) := by
    rcases hk with ⟨h1, j, hj, h2, h3, h4⟩ | ⟨h1, h2, h3, v2, h4⟩
    · exact ⟨true, j, pf1, n1, v1, h1, h2, .inl ⟨rfl, hj, h4⟩, .inl ⟨rfl, rfl, rfl, h3⟩⟩
    · exact ⟨false, n1, _, n1 + 1, v2, h1, h2, .inr ⟨rfl, n1, rfl, h4⟩, .inr ⟨rfl, rfl, rfl, rfl, h3⟩⟩
  have XO : Hid ((∀ j, j < n2 → j ≠ i → (pf2 j).port ≠ port) ∧ (pf2 i).id = id) := by
    refine ⟨fun j hj hji e => ?_, ?_⟩
    · rcases hX with ⟨_, rfl, rfl, hid⟩ | ⟨_, rfl, rfl, rfl, hid⟩
      · exact hji (XP.out.2 j i hj hM.tor.1 ((XP.out.1.free j hj e).trans hid.symm))
      · rw [upd_ne _ _ hji] at e
        exact hid j (by omega) (XP.out.1.free j (by omega) e)
    · rcases hX with ⟨_, rfl, rfl, hid⟩ | ⟨_, rfl, rfl, rfl, hid⟩
      · exact hid
      · rw [upd_at]; rfl
  obtain ⟨pb, cap, F, S, rfl, hcap, hn3, c0⟩ := hM.slot
  have hi := hM.tor.1
  have XM : Hid (En w V6 g ab tx id port s dn ev ∧ Mid2 kq V6 g (.slice (some ⟨pb, 0, none⟩) n2 cap) pf2 n2 i dl) := ⟨hE, hM⟩
  have XX : Hid ((kq = true ∧ pf2 = pf1 ∧ n2 = n1 ∧ (pf1 i).id = id) ∨ (kq = false ∧ pf2 = upd pf1 n1 (fresh id br) ∧ n2 = n1 + 1 ∧ i = n1 ∧ ∀ j, j < n1 → (pf1 j).id ≠ id)) := hX
  have XS : Hid (∀ m, (loadVar 48 ⟨pb, i * 61 + 52, none⟩).run Ybad.prog (V6.drewN m) = .ok (epV (pf2 i).port) (V6.drewN m)) := fun m => loadv_ep (fun k hk => (S.of (drewN_row S.row m)).cell hi hk)
  have XL : Hid (∀ m, (loadVar 48 ⟨ab, 40, none⟩).run Ybad.prog (V6.drewN m) = .ok (epV port) (V6.drewN m)) := fun m => ann_ep (drewN_row hE.ann m)
  have XQ : Hid (∀ m, (binOp .neq 48 (epV (pf2 i).port) (epV port)).run Ybad.prog (V6.drewN m) = .ok (.bool (decide ((pf2 i).port ≠ port))) (V6.drewN m)) := fun m => by
    obtain ⟨_, tf, nb, ns, fi, fe, ni, ne, _, T⟩ := hM.tor
    exact neq48 _ _ (T.ok i hi).2.1 XA.out.2.2.2.1 _
  clear hE hM hX hk S
  go_upto_region 12 with fail
  go_cut [127] from 115 to 127 (fun b wc => (En w wc g ab tx id port s dn ev ∧ Mid2 kq wc g (.slice (some ⟨pb, 0, none⟩) n2 cap) pf2 n2 i dl) ∧ b = .bool (!kq || decide ((pf2 i).port ≠ port)))
  case first =>
    cases kq with
    | false =>
      refine wp_region_quiet_lit (by kernel_rfl) (by kernel_rfl) ?_
      iterate 13 (go_big_quiet_step (fail))
      refine wpQuiet_nil ?_
      intro _ hw'
      obtain ⟨nq, hw''⟩ := hw'
      subst hw''
      go_wp2_with fail
      go_meet
      case rel => exact ⟨⟨XM.out.1.go (frN ((Turn.refl [] V6).drewN nq)), XM.out.2.new ((Turn.refl [] V6).drewN nq)⟩, rfl⟩
    | true =>
      refine wp_region_quiet_lit (by kernel_rfl) (by kernel_rfl) ?_
      iterate 6 (go_big_quiet_step (fail))
      refine wpQuiet_value 121 rfl (by kernel_rfl) (fun m => exec_load rfl rfl (XS.out m)) ?_
      go_frame
      iterate 3 (go_big_quiet_step (fail))
      refine wpQuiet_value 125 rfl (by kernel_rfl) (fun m => exec_load rfl rfl (XL.out m)) ?_
      go_frame
      refine wpQuiet_value 126 rfl (by kernel_rfl) (fun m => exec_neq rfl rfl rfl (guard48 _ _ _ _ _) (XQ.out m)) ?_
      go_frame
      iterate 1 (go_big_quiet_step (fail))
      refine wpQuiet_nil ?_
      intro _ hw'
      obtain ⟨nq, hw''⟩ := hw'
      subst hw''
      go_wp2_with fail
      go_meet
      case rel => exact ⟨⟨XM.out.1.go (frN ((Turn.refl [] V6).drewN nq)), XM.out.2.new ((Turn.refl [] V6).drewN nq)⟩, by simp⟩
  case rest =>
  obtain ⟨V7, hV7⟩ : ∃ V7, V7 = wc := ⟨_, rfl⟩
  rw [← hV7] at hcut ⊢
  clear hV7 XM XS XL XQ c0
  obtain ⟨hEM, rfl⟩ := hcut
  have XM : Hid (En w V7 g ab tx id port s dn ev ∧ Mid2 kq V7 g (.slice (some ⟨pb, 0, none⟩) n2 cap) pf2 n2 i dl) := hEM
  clear hEM
  go_upto_if 127 with fail
  go_cut [127] from 128 to 194 (fun _ wc => En w wc g ab tx id port s dn ev ∧ St wc g (.slice (some ⟨pb, 0, none⟩) n2 cap) (upd pf2 i (moved (pf2 i) port)) n2 dl)
  case first =>
    obtain ⟨bb, hbb⟩ : ∃ bb, bb = (!kq || decide ((pf2 i).port ≠ port)) := ⟨_, rfl⟩
    rw [← hbb]
    cases bb with
    | false =>
      have hS : St V7 g (.slice (some ⟨pb, 0, none⟩) n2 cap) (upd pf2 i (moved (pf2 i) port)) n2 dl := by
        cases kq with
        | false => simp at hbb
        | true =>
          have hp : (pf2 i).port = port := by simpa using hbb
          rw [upd_id _ _ _ (show pf2 i = moved (pf2 i) port by unfold moved; rw [← hp])]
          rcases XM.out.2 with ⟨_, _, h⟩ | ⟨h, _⟩
          · exact h
          · cases h
      have XR : Hid (En w V7 g ab tx id port s dn ev ∧ St V7 g (.slice (some ⟨pb, 0, none⟩) n2 cap) (upd pf2 i (moved (pf2 i) port)) n2 dl) := ⟨XM.out.1, hS⟩
      clear hS hbb
      go_wp2_with fail
      go_meet
      case rel => exact XR.out
    | true =>
      clear hbb
      obtain ⟨m, rfl⟩ : ∃ m, n2 = m + 1 := ⟨n2 - 1, by omega⟩
      go_upto_if 128 with fail
      go_cut [128] from 129 to 149 (fun _ wc => En w wc g ab tx id port s dn ev ∧ Det wc g (.slice (some ⟨pb, 0, none⟩) (m + 1) cap) pf2 m i dl)
      case first =>
        cases kq with
        | false =>
          go_wp2_with fail
          go_meet
          case rel =>
            refine ⟨XM.out.1, ?_⟩
            rcases XM.out.2 with ⟨h, _⟩ | ⟨_, m', hm, h⟩
            · cases h
            · obtain rfl : m = m' := by omega
              exact h
        | true =>
          have hS : St V7 g (.slice (some ⟨pb, 0, none⟩) (m + 1) cap) pf2 (m + 1) dl := by
            rcases XM.out.2 with ⟨_, _, h⟩ | ⟨h, _⟩
            · exact h
            · cases h
          obtain ⟨W8, e8, hF8, hO⟩ := hS.off hi
          have c9 := hS.cells.2.2.1
          have hO' := hO
          obtain ⟨_, tf, fi, fe, ht, T, _⟩ := hO'
          obtain ⟨F, S⟩ := T.at ht (by omega)
          obtain ⟨pb', cap', F7, S7, hv7, _⟩ := hS.slot (by omega)
          cases hv7
          have c16 := T.row.cell (i := 16) (by omega)
          rw [T.t16] at c16
          have XD : Hid ((∀ ty, (Builtin.delete_ #[72, 48] ty #[.map (some (g + 2)), epV (pf2 i).port]).run Ybad.prog V7.drew = .ok (.tuple #[]) W8) ∧ (loadVar 48 ⟨pb, i * 61 + 52, none⟩).run Ybad.prog V7.drew = .ok (epV (pf2 i).port) V7.drew) := ⟨e8, loadv_ep (fun k hk => (S7.of S7.row.drew).cell hi hk)⟩
          have XO8 : Hid (En w W8 g ab tx id port s dn ev ∧ Off W8 g (.slice (some ⟨pb, 0, none⟩) (m + 1) cap) pf2 m i dl (m + 1)) := ⟨XM.out.1.go hF8, hO⟩
          have y0 : W8.cell? ⟨pb, i * 61 + 52, none⟩ = some (.int .u64 0) := S.cell hi (k := 52) (by omega)
          have y1 : W8.cell? ⟨pb, i * 61 + 53, none⟩ = some (.int .u64 0) := S.cell hi (k := 53) (by omega)
          have y2 : W8.cell? ⟨pb, i * 61 + 54, none⟩ = some (.pointer none) := S.cell hi (k := 54) (by omega)
          have y3 : W8.cell? ⟨pb, i * 61 + 55, none⟩ = some (.int .u16 ((pf2 i).port : Int)) := S.cell hi (k := 55) (by omega)
          have X19 : Hid (∀ W, Turn [] W8 W → Calls Ybad.prog 19 #[.agg #[.int .u64 0, .int .u64 0, .pointer none, .int .u16 ((pf2 i).port : Int)]] W fun e w' => e = .returned (.agg #[.int .u64 0, .int .u64 0, .pointer none]) ∧ Hid (Turn [] W8 w') ∧ w'.cell? ⟨g + 4, 16, none⟩ = some (.map (some g))) := fun W hW =>
            (addr_any (pf2 i).port W).mono fun e w' ⟨h1, h2⟩ => ⟨h1, hW.trans h2, by rw [((hW.trans h2).row T.row (by simp)).cell (by omega), T.t16]⟩
          have X18 : Hid (∀ W, Turn [] W8 W → Calls Ybad.prog 18 #[.map (some g), .agg #[.int .u64 0, .int .u64 0, .pointer none], .int .i32 (-1)] W fun e w' => e = .returned (.tuple #[]) ∧ Hid (En w w' g ab tx id port s dn ev ∧ Off w' g (.slice (some ⟨pb, 0, none⟩) (m + 1) cap) pf2 m i dl m)) := fun W hW =>
            (XO8.out.2.new hW).source.mono fun e w' ⟨h1, h2, h3⟩ => ⟨h1, (XO8.out.1.go (frN hW)).go h2, h3⟩
          clear hS e8 hF8 hO ht T S S7
          go_upto_region 14 with fail
          refine wp_region_still_tail 8 mixed (by kernel_rfl) ?_
          simp only [List.take_succ_cons, List.take_zero, List.drop_succ_cons, List.drop_zero]
          iterate 7 still_step
          refine wpStill_value 136 rfl rfl (exec_load rfl rfl XD.out.2) ?_
          go_frame
          refine wpStill_nil ?_
          refine wpList_delete_raw rfl (.tmp 132) (.tmp 136) 72 48 rfl _ _ _ rfl rfl (XD.out.1 _) ?_
          clear c9 XD
          go_upto_region 15 with fail
          go_frame
          go_cut [146] from 137 to 146 (fun _ wc => En w wc g ab tx id port s dn ev ∧ Off wc g (.slice (some ⟨pb, 0, none⟩) (m + 1) cap) pf2 m i dl m)
          case first =>
            go_region_with (first | (go_at_call 19; refine (X19.out _ (by exact (Turn.refl [] W8).drew)).mono ?_; rintro e w6 ⟨rfl, H6, d16⟩) | (go_at_call 18; refine (X18.out _ H6.out).mono ?_; rintro e w7 ⟨rfl, H7⟩))
            all_goals (go_wp2_with fail; go_meet; case rel => exact H7.out)
          case rest =>
            have X20 : Hid (Calls Ybad.prog 20 #[.pointer (some ⟨g + 4, 0, none⟩), .int .i64 (i : Int), .int .i64 (-1)] wc fun e w' => e = .returned (.tuple #[]) ∧ Hid (En w w' g ab tx id port s dn ev ∧ Det w' g (.slice (some ⟨pb, 0, none⟩) (m + 1) cap) pf2 m i dl)) :=
              hcut.2.bridge.mono fun e w' ⟨h1, h2, h3⟩ => ⟨h1, hcut.1.go h2, h3⟩
            clear hcut X18 X19 y0 y1 y2 y3 c16
            go_wp2_with (go_at_call 20; refine X20.out.mono ?_; rintro e w8 ⟨rfl, H8⟩)
            go_meet
            case rel => exact H8.out
      case rest =>
        obtain ⟨V8, hV8⟩ : ∃ V8, V8 = wc := ⟨_, rfl⟩
        rw [← hV8] at hcut ⊢
        clear hV8 XM
        obtain ⟨hE, hD⟩ := hcut
        obtain ⟨hD9, hF9, hth⟩ := hD.move XA.out.2.2.2.1 rfl
        have hE9 := hE.go hF9
        have hpi : (upd pf2 i (moved (pf2 i) port) i).port = port := by rw [upd_at]; rfl
        obtain ⟨W10, e10, hF10, nb, hD10⟩ := hD9.lay (fun j hj hji => by rw [hpi, upd_ne _ _ hji]; exact XO.out.1 j hj hji)
        rw [hpi] at e10
        have XR : Hid (V8.rangeAt ab 40 [.int .u64 0, .int .u64 0, .pointer none, .int .u16 (port : Int)] ∧ V8.there pb (i * 61 + 52) 4) := ⟨ann_range hE.ann, hth⟩
        have X9 : Hid (∀ W, W = V8.setCells pb (i * 61 + 52) [.int .u64 0, .int .u64 0, .pointer none, .int .u16 (port : Int)] → (W.cell? ⟨g + 4, 9, none⟩ = some (.map (some (g + 2))) ∧ (loadVar 48 ⟨ab, 40, none⟩).run Ybad.prog W.drew = .ok (epV port) W.drew ∧ (Instr.mapUpdate 72 (.map (some (g + 2))) (epV port) (.int .i64 (i : Int))).run Ybad.prog W.drew = .ok () W10)) := by
          rintro W rfl
          obtain ⟨_, tf, fi, fe, nbd, _, T, _⟩ := hD9
          exact ⟨by rw [T.row.cell (by omega), T.t9], ann_ep hE9.ann.drew, e10⟩
        have X10 : Hid (En w W10 g ab tx id port s dn ev ∧ Det2 W10 g (.slice (some ⟨pb, 0, none⟩) (m + 1) cap) (upd pf2 i (moved (pf2 i) port)) m i dl m nb) := ⟨hE9.go hF10, hD10⟩
        clear hE hD hD9 hF9 hth hE9 hpi e10 hF10 hD10
        go_upto_region 18 with (first | (refine wpList_load_mid rfl 48 (.tmp 153) rfl ab 40 rfl [.int .u64 0, .int .u64 0, .pointer none, .int .u16 (port : Int)] _ XR.out.1 Ybad.underlying48 rfl size48 ?_) | (refine wpList_store_mid rfl 48 (.tmp 156) (.tmp 154) rfl pb (i * 61 + 52) #[.int .u64 0, .int .u64 0, .pointer none, .int .u16 (port : Int)] rfl rfl XR.out.2 size48 (by simp [Value.oneCell']) ?_))
        refine wp_world ?_
        intro V9 hV9
        have Y9 := X9.out V9 hV9
        obtain ⟨c9, L9, M9⟩ := Y9
        have XL9 : Hid ((loadVar 48 ⟨ab, 40, none⟩).run Ybad.prog V9.drew = .ok (epV port) V9.drew ∧ (Instr.mapUpdate 72 (.map (some (g + 2))) (epV port) (.int .i64 (i : Int))).run Ybad.prog V9.drew = .ok () W10) := ⟨L9, M9⟩
        clear hV9 X9 XR L9 M9
        refine wp_region_still_tail 9 mixed (by kernel_rfl) ?_
        simp only [List.take_succ_cons, List.take_zero, List.drop_succ_cons, List.drop_zero]
        iterate 7 still_step
        refine wpStill_value 164 rfl rfl (exec_load rfl rfl XL9.out.1) ?_
        go_frame
        still_step
        refine wpStill_nil ?_
        refine wpList_mapUpdate_raw rfl (.tmp 160) (.tmp 164) (.tmp 165) 72 rfl _ _ _ _ rfl rfl rfl XL9.out.2 ?_
        clear c9 XL9
        obtain ⟨y0, y1, y2, y3, _⟩ := ann_cells X10.out.1.ann
        have c16 : W10.cell? ⟨g + 4, 16, none⟩ = some (.map (some g)) := by
          obtain ⟨_, tf, fi, fe, _, T, _⟩ := X10.out.2
          rw [T.row.cell (by omega), T.t16]
        have X19 : Hid (∀ W, Turn [] W10 W → Calls Ybad.prog 19 #[.agg #[.int .u64 0, .int .u64 0, .pointer none, .int .u16 (port : Int)]] W fun e w' => e = .returned (.agg #[.int .u64 0, .int .u64 0, .pointer none]) ∧ Hid (Turn [] W10 w') ∧ w'.cell? ⟨g + 4, 16, none⟩ = some (.map (some g))) := fun W hW =>
          (addr_any port W).mono fun e w' ⟨h1, h2⟩ => ⟨h1, hW.trans h2, by
            obtain ⟨_, tf, fi, fe, _, T, _⟩ := X10.out.2
            rw [((hW.trans h2).row T.row (by simp)).cell (by omega), T.t16]⟩
        have X18 : Hid (∀ W, Turn [] W10 W → Calls Ybad.prog 18 #[.map (some g), .agg #[.int .u64 0, .int .u64 0, .pointer none], .int .i32 1] W fun e w' => e = .returned (.tuple #[]) ∧ Hid (En w w' g ab tx id port s dn ev ∧ Det2 w' g (.slice (some ⟨pb, 0, none⟩) (m + 1) cap) (upd pf2 i (moved (pf2 i) port)) m i dl (m + 1) nb)) := fun W hW =>
          (X10.out.2.new hW).source.mono fun e w' ⟨h1, h2, h3⟩ => ⟨h1, (X10.out.1.go (frN hW)).go h2, h3⟩
        go_upto_region 19 with fail
        go_frame
        go_cut [175] from 166 to 175 (fun _ wc => En w wc g ab tx id port s dn ev ∧ Det2 wc g (.slice (some ⟨pb, 0, none⟩) (m + 1) cap) (upd pf2 i (moved (pf2 i) port)) m i dl (m + 1) nb)
        case first =>
          go_region_with (first | (go_at_call 19; refine (X19.out _ (by exact (Turn.refl [] W10).drew)).mono ?_; rintro e w6 ⟨rfl, H6, d16⟩) | (go_at_call 18; refine (X18.out _ H6.out).mono ?_; rintro e w7 ⟨rfl, H7⟩))
          all_goals (go_wp2_with fail; go_meet; case rel => exact H7.out)
        case rest =>
          clear X18 X19 y0 y1 y2 y3 c16 X10
          obtain ⟨V11, hV11⟩ : ∃ V11, V11 = wc := ⟨_, rfl⟩
          rw [← hV11] at hcut ⊢
          clear hV11
          have X11 : Hid (En w V11 g ab tx id port s dn ev ∧ Det2 V11 g (.slice (some ⟨pb, 0, none⟩) (m + 1) cap) (upd pf2 i (moved (pf2 i) port)) m i dl (m + 1) nb) := hcut
          clear hcut
          obtain ⟨y0, y1, y2, y3, _⟩ := ann_cells X11.out.1.ann
          have Y19 : Hid (Calls Ybad.prog 19 #[.agg #[.int .u64 0, .int .u64 0, .pointer none, .int .u16 (port : Int)]] V11 fun e w' => e = .returned (.agg #[.int .u64 0, .int .u64 0, .pointer none]) ∧ Hid (Turn [] V11 w')) :=
            (addr_any port V11).mono fun e w' ⟨h1, h2⟩ => ⟨h1, h2⟩
          have Y21 : Hid (∀ W, Turn [] V11 W → Calls Ybad.prog 21 #[.pointer db, .agg #[.int .u64 0, .int .u64 0, .pointer none]] W fun e w' => e = .returned (.tuple #[.agg #[.int .u64 0, .int .u64 0, .pointer none, .int .u8 0, .int .u32 0, .string ⟨#[]⟩, .string ⟨#[]⟩, .string ⟨#[]⟩, .int .u8 0], .bool false]) ∧ Hid (Turn [] V11 w')) := fun W hW => by
            obtain ⟨_, tf, fi, fe, _, T, _⟩ := X11.out.2
            exact (lookup_any db W (T.z0.turn hW (by simp))).mono fun e w' ⟨h1, h2⟩ => ⟨h1, hW.trans h2⟩
          go_upto_region 21 with (first | (go_at_call 19; refine Y19.out.mono ?_; rintro e wa ⟨rfl, Ha⟩) | (go_at_call 21; refine (Y21.out _ Ha.out).mono ?_; rintro e wb ⟨rfl, Hb⟩))
          refine wp_world ?_
          intro V12 hV12
          obtain ⟨hT12, hL12⟩ := box92 (W := wb) hV12
          have hTT := Hb.out.trans hT12
          have XL12 : Hid ((loadVar 92 ⟨wb.heap.size, 0, none⟩).run Ybad.prog V12.drew = .ok (.agg z92.toArray) V12.drew) := hL12
          have X22 : Hid (Calls Ybad.prog 22 #[.pointer (some ⟨g + 4, 1, none⟩), .int .i64 (i : Int), .agg z92.toArray] V12.drew fun e w' => e = .returned (.tuple #[]) ∧ Hid (En w w' g ab tx id port s dn ev ∧ Det2 w' g (.slice (some ⟨pb, 0, none⟩) (m + 1) cap) (upd pf2 i (moved (pf2 i) port)) m i dl (m + 1) nb)) :=
            (X11.out.2.new hTT.drew).set.mono fun e w' ⟨h1, h2, h3⟩ => ⟨h1, (X11.out.1.go (frN hTT.drew)).go h2, h3⟩
          have X20 : Hid (∀ W, (En w W g ab tx id port s dn ev ∧ Det2 W g (.slice (some ⟨pb, 0, none⟩) (m + 1) cap) (upd pf2 i (moved (pf2 i) port)) m i dl (m + 1) nb) → Calls Ybad.prog 20 #[.pointer (some ⟨g + 4, 0, none⟩), .int .i64 (i : Int), .int .i64 1] W fun e w' => e = .returned (.tuple #[]) ∧ Hid (En w w' g ab tx id port s dn ev ∧ St w' g (.slice (some ⟨pb, 0, none⟩) (m + 1) cap) (upd pf2 i (moved (pf2 i) port)) (m + 1) dl)) := fun W hW =>
            hW.2.bridge.mono fun e w' ⟨h1, h2, h3⟩ => ⟨h1, hW.1.go h2, h3⟩
          clear hV12 hT12 hL12 hTT Hb Ha Y19 Y21 y0 y1 y2 y3 X11
          refine wp_region_still_tail 5 mixed (by kernel_rfl) ?_
          simp only [List.take_succ_cons, List.take_zero, List.drop_succ_cons, List.drop_zero]
          iterate 4 still_step
          refine wpStill_value 190 rfl rfl (exec_load rfl rfl XL12.out) ?_
          go_frame
          refine wpStill_nil ?_
          go_wp2_with (first | (go_at_call 22; refine X22.out.mono ?_; rintro e wd ⟨rfl, Hd⟩) | (go_at_call 20; refine (X20.out _ Hd.out).mono ?_; rintro e wf ⟨rfl, Hf⟩))
          go_meet
          case rel => exact Hf.out
  case rest =>
  obtain ⟨V13, hV13⟩ : ∃ V13, V13 = wc := ⟨_, rfl⟩
  rw [← hV13] at hcut ⊢
  clear hV13 XM
  obtain ⟨hE, hS⟩ := hcut
  have hSC := hS.c
  obtain ⟨F13, S⟩ := hSC.at (by omega)
  obtain ⟨b, hb⟩ : ∃ b, (pf2 i).done = b := ⟨_, rfl⟩
  obtain ⟨c, hc⟩ : ∃ c, cnt Peer.done (upd pf2 i (moved (pf2 i) port)) n2 = c := ⟨_, rfl⟩
  have hc3 : c ≤ 3 := by have := cnt_le Peer.done (upd pf2 i (moved (pf2 i) port)) n2; omega
  rw [hc] at hSC
  have c56 : V13.cell? ⟨pb, i * 61 + 56, none⟩ = some (.bool b) := by rw [S.cell hi (k := 56) (by omega), upd_at, ← hb]; rfl
  obtain ⟨c10, c11, hfz, hfar⟩ := hSC.cells
  obtain ⟨_, _, _, _, a77, a78⟩ := ann_cells hE.ann
  have f10 := hfz 10
  have f11 := hfz 11
  have hab : ab ≠ g + 4 := hfar _ _ _ _ (by decide) hE.ann
  have hpb : pb ≠ g + 4 := hfar _ _ _ _ (by decide) S.row
  have hdl := XA.out.2.2.2.2.2
  have XK : Hid (cnt Peer.done (upd (upd pf2 i (moved (pf2 i) port)) i (ended (upd pf2 i (moved (pf2 i) port) i) dn s)) n2 + (if b then 1 else 0) = c + (if dn then 1 else 0)) := by
    have := cnt_ended (pf := upd pf2 i (moved (pf2 i) port)) (s := s) (dn := dn) hi
    have e : (upd pf2 i (moved (pf2 i) port) i).done = b := by rw [upd_at, ← hb]; rfl
    rw [e, hc] at this
    exact this
  have XS : Hid (En w V13 g ab tx id port s dn ev ∧ StC V13 g (.slice (some ⟨pb, 0, none⟩) n2 cap) (upd pf2 i (moved (pf2 i) port)) n2 c dl) := ⟨hE, hSC⟩
  have XB : Hid ((pf2 i).done = b) := hb
  clear hE hS hSC S hb hc hfz hfar
  go_upto_block 0 with fail
  go_cut [] from 195 to 246 (fun wc => En w wc g ab tx id port s dn ev ∧ StC wc g (.slice (some ⟨pb, 0, none⟩) n2 cap) (upd pf2 i (moved (pf2 i) port)) n2 (cnt Peer.done (upd (upd pf2 i (moved (pf2 i) port)) i (ended (upd pf2 i (moved (pf2 i) port) i) dn s)) n2) (dl + if dn && !b && (kq || ev) then 1 else 0))
  case first =>
    cases dn with
    | false =>
      cases b with
      | false =>
        go_wp2_with fail
        go_meet
        case rel =>
          have hk := XK.out
          simp only [Bool.false_eq_true, if_false, Nat.add_zero] at hk
          rw [hk]
          exact XS.out
      | true =>
        have hk := XK.out
        simp only [Bool.false_eq_true, if_false, if_true, Nat.add_zero] at hk
        have hk : Hid _ := hk
        have hc1 : 1 ≤ c := by have := hk.out; omega
        go_wp2_with fail
        go_meet
        case rel =>
          obtain ⟨h1, hF1⟩ := XS.out.2.complete (x := (c : Int) - 1) (c' := cnt Peer.done (upd (upd pf2 i (moved (pf2 i) port)) i (ended (upd pf2 i (moved (pf2 i) port) i) false s)) n2) (by have := hk.out; omega)
          exact ⟨XS.out.1.go hF1, h1⟩
    | true =>
      cases b with
      | true =>
        go_wp2_with fail
        go_meet
        case rel =>
          have hk := XK.out
          simp only [if_true] at hk
          have hk : cnt Peer.done (upd (upd pf2 i (moved (pf2 i) port)) i (ended (upd pf2 i (moved (pf2 i) port) i) true s)) n2 = c := by omega
          rw [hk]
          exact XS.out
      | false =>
        have hk := XK.out
        simp only [Bool.false_eq_true, if_false, if_true, Nat.add_zero] at hk
        have hk : Hid _ := hk
        cases kq with
        | true =>
          go_wp2_with fail
          go_meet
          case rel =>
            obtain ⟨h1, hF1⟩ := XS.out.2.complete (x := (c : Int) + 1) (c' := c + 1) (by omega)
            obtain ⟨h2, hF2⟩ := h1.loaded (x := (dl : Int) + 1) (dl' := dl + 1) (by omega)
            rw [hk.out]
            exact ⟨(XS.out.1.go hF1).go hF2, h2⟩
        | false =>
          cases ev with
          | true =>
            go_wp2_with fail
            go_meet
            case rel =>
              obtain ⟨h1, hF1⟩ := XS.out.2.complete (x := (c : Int) + 1) (c' := c + 1) (by omega)
              obtain ⟨h2, hF2⟩ := h1.loaded (x := (dl : Int) + 1) (dl' := dl + 1) (by omega)
              rw [hk.out]
              exact ⟨(XS.out.1.go hF1).go hF2, h2⟩
          | false =>
            go_wp2_with fail
            go_meet
            case rel =>
              obtain ⟨h1, hF1⟩ := XS.out.2.complete (x := (c : Int) + 1) (c' := c + 1) (by omega)
              rw [hk.out]
              exact ⟨XS.out.1.go hF1, h1⟩
  case rest =>
  obtain ⟨V14, hV14⟩ : ∃ V14, V14 = wc := ⟨_, rfl⟩
  rw [← hV14] at hcut ⊢
  clear hV14 XS XK c56 c10 c11 a77 a78 f10 f11
  obtain ⟨hE, hS⟩ := hcut
  have hS' := hS.new (Turn.refl [] V14).drew
  obtain ⟨hEnd, hFE⟩ := hS'.ended hi XA.out.2.2.2.2.1 rfl
  obtain ⟨F14, S⟩ := hS'.at (by omega)
  have hrm := S.room
  obtain ⟨_, _, _, _, a77, _⟩ := ann_cells hE.ann
  obtain ⟨x56, c56⟩ : ∃ x, V14.cell? ⟨pb, i * 61 + 56, none⟩ = some x := ⟨_, S.cell hi (k := 56) (by omega)⟩
  have f56 : V14.frozen? ⟨pb, i * 61 + 56, none⟩ = false := S.row.frozen _
  have XTH : Hid ((storeVar 57 ⟨pb, i * 61 + 57, none⟩ (.agg #[.int .u64 (s : Int), .int .i64 0, .pointer none])).run Ybad.prog (V14.drew.setCell ⟨pb, i * 61 + 56, none⟩ (.bool dn)) = .ok () ((V14.drew.setCell ⟨pb, i * 61 + 56, none⟩ (.bool dn)).setCells pb (i * 61 + 57) [.int .u64 (s : Int), .int .i64 0, .pointer none])) :=
    run_storeVar_mid _ _ _ _ _ (fun k hk => by
      have hk : k < 3 := hk
      have r := S.row.set (i * 61 + 56) (.bool dn)
      rw [Nat.add_assoc]
      exact ⟨by rw [r.cell (by omega)]; rfl, r.frozen _⟩) size57 (by simp [Value.oneCell'])
  have XT : Hid (V14.drew.rowIs tx 57 3 (tcell s) ∧ (V14.drew.setCell ⟨pb, i * 61 + 56, none⟩ (.bool dn)).rowIs tx 57 3 (tcell s)) := ⟨hE.tim, ((Turn.refl [pb] V14.drew).setCell (p := ⟨pb, i * 61 + 56, none⟩) (.inl (by simp)) (.bool dn)).row hE.tim.drew (by have := row_ne hE.tim.drew S.row (by decide); simpa using this)⟩
  have X15 : Hid (∀ W, W = (V14.drew.setCell ⟨pb, i * 61 + 56, none⟩ (.bool dn)).setCells pb (i * 61 + 57) [.int .u64 (s : Int), .int .i64 0, .pointer none] → En w W g ab tx id port s dn ev ∧ St W g (.slice (some ⟨pb, 0, none⟩) n2 cap) (upd (upd pf2 i (moved (pf2 i) port)) i (ended (upd pf2 i (moved (pf2 i) port) i) dn s)) n2 (dl + if dn && !b && (kq || ev) then 1 else 0)) := by
    rintro W rfl
    exact ⟨(hE.go (frN (Turn.refl [] V14).drew)).go hFE, hEnd⟩
  clear hE hS hS' hEnd hFE S
  go_upto_region 29 with fail
  refine wp_only ?_
  refine wp_region_late [1, 6] [0, 2, 3, 4, 5] 7 (fun W => W.rowIs tx 57 3 (tcell s)) mixed (by kernel_rfl) (fun _ _ _ _ _ h => h) XT.out.1 ?_
  simp only [List.filterMap_cons, List.filterMap_nil, List.getElem?_cons_succ, List.getElem?_cons_zero]
  refine wpEarly_value 248 (v := .pointer (some ⟨pb, i * 61, none⟩)) rfl (by kernel_rfl) (fun W hW => BigFrame.run_move (.tmp 17) rfl W) ?_
  go_frame
  refine wpEarly_value 253 (v := .agg #[.int .u64 (s : Int), .int .i64 0, .pointer none]) rfl (by kernel_rfl) (fun W hW => exec_load rfl rfl (tim_range hW)) ?_
  go_frame
  refine wpEarly_nil ?_
  iterate 5 still_step
  refine wpStill_nil ?_
  unfold tail6
  refine wpOp_value 254 (w' := V14.drew) (v := .pointer (some ⟨pb, i * 61, none⟩)) rfl rfl rfl (by go_simp) ⟨XT.out.1, ?_⟩
  go_frame
  refine wpOp_value 255 (w' := V14.drew) (v := .pointer (some ⟨pb, i * 61 + 56, none⟩)) rfl rfl rfl (by go_simp) ⟨XT.out.1, ?_⟩
  go_frame
  refine wpOp_skip (w' := V14.drew.setCell ⟨pb, i * 61 + 56, none⟩ (.bool dn)) rfl rfl rfl (exec_store rfl rfl rfl (by go_simp)) ⟨XT.out.2, ?_⟩
  refine wpOp_value 256 (w' := V14.drew.setCell ⟨pb, i * 61 + 56, none⟩ (.bool dn)) (v := .pointer (some ⟨pb, i * 61, none⟩)) rfl rfl rfl (by go_simp) ?_
  go_frame
  refine wpOp_value 257 (w' := V14.drew.setCell ⟨pb, i * 61 + 56, none⟩ (.bool dn)) (v := .pointer (some ⟨pb, i * 61 + 57, none⟩)) rfl rfl rfl (by go_simp) ?_
  go_frame
  refine wpOp_skip (w' := (V14.drew.setCell ⟨pb, i * 61 + 56, none⟩ (.bool dn)).setCells pb (i * 61 + 57) [.int .u64 (s : Int), .int .i64 0, .pointer none]) rfl rfl rfl (exec_store rfl rfl rfl XTH.out) ?_
  refine then_only ?_
  refine q_world ?_
  intro V15 hV15
  have X16 : Hid (En w V15 g ab tx id port s dn ev ∧ St V15 g (.slice (some ⟨pb, 0, none⟩) n2 cap) (upd (upd pf2 i (moved (pf2 i) port)) i (ended (upd pf2 i (moved (pf2 i) port) i) dn s)) n2 (dl + if dn && !b && (kq || ev) then 1 else 0)) := X15.out V15 hV15
  clear hV15 X15 XTH XT c56 f56 a77
  go_upto_region 30 with fail
  have c56 : V15.cell? ⟨pb, i * 61 + 56, none⟩ = some (.bool dn) := by
    obtain ⟨F15, S⟩ := X16.out.2.c.at (by omega)
    rw [S.cell hi (k := 56) (by omega), upd_at]
    rfl
  have X23 : Hid (Calls Ybad.prog 23 #[.pointer (some ⟨g + 4, 1, none⟩), .int .i64 (i : Int), .bool dn] V15.drew fun e w' => e = .returned (.tuple #[]) ∧ Hid (Fr g TY w w' ∧ St w' g (.slice (some ⟨pb, 0, none⟩) n2 cap) (upd (upd pf2 i (moved (pf2 i) port)) i (ended (upd pf2 i (moved (pf2 i) port) i) dn s)) n2 (dl + if dn && !b && (kq || ev) then 1 else 0))) :=
    (((X16.out.2.new (Turn.refl [] V15).drew).mark hi)).mono fun e w' ⟨h1, h2, h3⟩ => ⟨h1, (X16.out.1.fr.drew).trans h2, h3⟩
  clear X16
  refine wp_region_still_tail 8 mixed (by kernel_rfl) ?_
  simp only [List.take_succ_cons, List.take_zero, List.drop_succ_cons, List.drop_zero]
  iterate 8 still_step
  refine wpStill_nil ?_
  go_wp2_with (go_at_call 23; refine X23.out.mono ?_; rintro e wz ⟨rfl, Hz⟩)
  go_ret
  refine ⟨i, n2, _, _, _, rfl, Hz.out.1, Hz.out.2, ?_⟩
  rw [upd_upd, upd_at]
  rcases XX.out with ⟨rfl, rfl, rfl, hid⟩ | ⟨rfl, rfl, rfl, rfl, hid⟩
  · have e : ended (moved (pf2 i) port) dn s = ⟨id, port, dn, (pf2 i).br, s⟩ := by
      unfold ended moved
      rw [← hid]
    rw [e]
    refine PutPost.known XP.out.1 XP.out.2 hi hid ?_
    rw [XB.out]
    simp
  · have e : ended (moved (upd pf1 i (fresh id br) i) port) dn s = ⟨id, port, dn, br, s⟩ := by
      rw [upd_at]
      rfl
    rw [e]
    refine PutPost.fresh XP.out.1 hid _ ?_
    have hb := XB.out
    rw [upd_at] at hb
    rw [← hb]
    simp [fresh]
end Go.Proofs.YbulkbdskDoor
