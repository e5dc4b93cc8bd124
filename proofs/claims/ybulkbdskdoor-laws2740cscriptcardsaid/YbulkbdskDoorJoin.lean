/-
  (*Index).join.
-/
import Derived.Test.YbulkbdskDoorMid
namespace Go.Proofs.YbulkbdskDoor
open Go Go.RowKit

theorem jrow3 (F : Nat → Value) (i m mb x : Nat) : jrow F i m mb 3 x = (if x = i * 6 then .pointer (some ⟨mb, 0, none⟩) else if x = i * 6 + 1 then .int .i32 (m : Int) else if x = i * 6 + 2 ∨ x = i * 6 + 4 then .pointer none else if x = i * 6 + 3 ∨ x = i * 6 + 5 then .int .i32 0 else F x) := by
  unfold jrow
  repeat' split
  all_goals first | rfl | (exfalso; omega)

theorem map_eql (vo : Option Nat) (W : World) : (binOp .eql 66 (.map vo) (.map none)).run Ybad.prog W = .ok (.bool vo.isNone) W := by
  cases vo <;> kernel_rfl

/-- The group is new, and nobody is in it yet. -/
theorem Mid.fresh {w w7 w8 : World} {tb ib icap mb gb clock born : Nat} {tf0 tf5 F mf f0 : Nat → Value} {ids : Nat → Nat} {v : Value} {o : Obj} (rt : w7.rowIs tb 75 17 tf5) (h5 : tf5 5 = .map (some gb)) (htf : ∀ k, k ≠ 5 → k ≠ 6 → tf5 k = tf0 k)
    (hgb : tb < gb) (hg : w7.heap[gb]? = some (.map #[⟨gkey, .pointer (some ⟨mb, 0, none⟩), born⟩] clock)) (hmb : tb < mb) (rM : w7.rowIs mb 132 5 mf) (m0 : mf 0 = .slice none 0 0) (m3 : mf 3 = .int .i32 0)
    (ri : w7.rowIs ib 112 (icap * 6) F) (hf : Fr tb TJ w w7) (hs : Sl w7 tb 109 1 (tf5 6) 0 f0) (hgr : ((w7.setCell ⟨mb, 4, none⟩ (.int .i32 0)).alloc o).grownBy w8 (tf5 6).ownBlock)
    (ho : w8.ownsRow (tb + 1) 109 1 v (0 + 1) ((List.range (0 * 1)).map f0 ++ [.pointer (some ⟨mb, 0, none⟩)])) :
    Mid w tb tf0 0 ids ib icap F (w8.setCell ⟨tb, 6, none⟩ v) (fun k => if k = 6 then v else tf5 k) mb gb clock born (fun k => if k = 4 then .int .i32 0 else mf k) 0 := by
  have hT1 : Turn [mb] w7 ((w7.setCell ⟨mb, 4, none⟩ (.int .i32 0)).alloc o) := ((Turn.refl [mb] w7).setCell (.inl (by simp)) _).alloc o
  have hT2 : Turn (tf5 6).ownBlock.toList ((w7.setCell ⟨mb, 4, none⟩ (.int .i32 0)).alloc o) w8 := (Turn.refl _ _).grown (row := (tf5 6).ownBlock) hgr (fun k e => .inl (by simp [e]))
  have hT : Turn (mb :: (tf5 6).ownBlock.toList) w7 w8 := (hT1.mono (by simp)).trans (hT2.mono (fun k hk => by simp [hk]))
  have hty : ∀ k ∈ mb :: (tf5 6).ownBlock.toList, tb < k ∧ ∃ c t, w7.heap[k]? = some (.cells c t (0, 0)) ∧ (t = 132 ∨ t = 109) := fun k hk => by
    rcases List.mem_cons.1 hk with rfl | hk
    · obtain ⟨c, hc, _⟩ := rM
      exact ⟨hmb, c, 132, hc, .inl rfl⟩
    · obtain ⟨h1, c, hc⟩ := hs.block (by simpa using hk)
      exact ⟨h1, c, 109, hc, .inr rfl⟩
  have hne : ∀ {b t n f}, w7.rowIs b t n f → t ≠ 132 → t ≠ 109 → b ∉ mb :: (tf5 6).ownBlock.toList := fun hr h1 h2 hm => by
    obtain ⟨_, c, t', hc, ht⟩ := hty _ hm
    have := cells_of_row hr hc
    rcases ht with rfl | rfl
    · exact h1 this.symm
    · exact h2 this.symm
  have r1 : ((w7.setCell ⟨mb, 4, none⟩ (.int .i32 0)).alloc o).rowIs mb 132 5 (fun k => if k = 4 then .int .i32 0 else mf k) := (rM.set 4 _).alloc o
  have r8 := hT2.row r1 (fun hm => by
    obtain ⟨_, c, hc⟩ := hs.block (by simpa using hm)
    have := cells_of_row rM hc
    cases this)
  have t8 := hT.row rt (hne rt (by decide) (by decide))
  have i8 := hT.row ri (hne ri (by decide) (by decide))
  have g8 : w8.heap[gb]? = _ := hT.obj hg (fun hm => by
    obtain ⟨_, c, t, hc, _⟩ := hty _ hm
    rw [hg] at hc; cases hc)
  have s8 : Sl w8 tb 109 1 v (0 + 1) (fun _ => .pointer (some ⟨mb, 0, none⟩)) := Sl.appended ho (fun k hk => by omega) (fun k hk => by
    obtain rfl : k = 0 := by omega
    simp)
  have hbt : ∀ {b t n f}, w8.rowIs b t n f → t ≠ 75 → b ≠ tb := fun hr ht => row_ne hr t8 ht
  refine ⟨fun k h1 h2 => by rw [if_neg h2]; exact htf k h1 h2, t8.set 6 v, hgb, by simpa using h5, ?_, ?_, hmb, r8.setOther (a := ⟨tb, 6, none⟩) (hbt r8 (by decide)) _, by simpa using m3, rfl, ?_, ?_, i8.setOther (a := ⟨tb, 6, none⟩) (hbt i8 (by decide)) _⟩
  · rw [Below.heap_setCell]
    · exact g8
    · show gb ≠ tb; omega
  · refine (s8.of (fun b o hb ho _ => ?_) : Sl (w8.setCell ⟨tb, 6, none⟩ v) tb 109 1 v (0 + 1) _)
    rw [Below.heap_setCell]
    · exact ho
    · show b ≠ tb; omega
  · simp only [if_neg (show ¬ (0 : Nat) = 4 by omega), m0]
    exact Sl.nil _ _ _ _ _
  · refine (hf.trans (Fr.ofTurn hT (fun k hk => by have := (hty k hk).1; omega) (fun k hk c t fr hc => ?_))).setCell (p := ⟨tb, 6, none⟩) t8 (Nat.le_refl _) (by decide) _
    obtain ⟨_, c2, t2, h2, ht⟩ := hty k hk
    rw [h2] at hc
    cases hc
    rcases ht with rfl | rfl <;> simp

theorem Mid.cnt {w W : World} {tb m ib icap mb gb clock born : Nat} {tf0 tf F mf : Nat → Value} {ids : Nat → Nat} {c : Int} (M : Mid w tb tf0 m ids ib icap F W tf mb gb clock born mf c) (c' : Int) :
    Mid w tb tf0 m ids ib icap F (W.setCell ⟨mb, 3, none⟩ (.int .i32 c')) tf mb gb clock born (fun k => if k = 3 then .int .i32 c' else mf k) c' := by
  have hT : Turn [mb] W (W.setCell ⟨mb, 3, none⟩ (.int .i32 c')) := (Turn.refl [mb] W).setCell (.inl (by simp)) _
  have hsl : ∀ {e sz v n f}, Sl W tb e sz v n f → e ≠ 132 → Sl (W.setCell ⟨mb, 3, none⟩ (.int .i32 c')) tb e sz v n f := fun hs he => hs.of (fun b o _ ho ⟨c, e'⟩ => hT.obj ho (fun hm => by simp at hm; subst hm; subst e'; exact he (cells_of_row M.kmrow ho)))
  refine ⟨M.ktf, hT.row M.krow ?_, M.kgb, M.ktf5, hT.obj M.kmap ?_, hsl M.kases (by decide), M.kmb, M.kmrow.set 3 _, rfl, M.km4, hsl M.kids (by decide), M.kfr.setCell (p := ⟨mb, 3, none⟩) M.kmrow (by have := M.kmb; show tb ≤ mb; omega) (by decide) _, hT.row M.kins ?_⟩
  · simp; exact row_ne M.krow M.kmrow (by decide)
  · obtain ⟨_, h1, _⟩ := M.kmrow
    simp; exact ne_of_obj M.kmap h1 (by simp)
  · simp; exact row_ne M.kins M.kmrow (by decide)

set_option maxHeartbeats 2000000 in
set_option maxRecDepth 100000 in
theorem join_any (tb i n m mb : Nat) (tf : Nat → Value) (ids : Nat → Nat) (pos : Nat → Option Nat) (w : World) (h : Ix w tb tf n m ids pos mb) (hp : pos i = none) (hin : i < n) (hmn : m < n) :
    Calls Ybad.prog 28 #[.pointer (some ⟨tb, 1, none⟩), .int .i64 (i : Int)] w fun e w' => e = .returned (.tuple #[]) ∧ Fr tb TJ w w' ∧
      ∃ tf' mb', (∀ k, k ≠ 5 → k ≠ 6 → tf' k = tf k) ∧ Ix w' tb tf' n (m + 1) (fun k => if k = m then i else ids k) (fun j => if j = i then some m else pos j) mb' := by
  obtain ⟨F, hF, hI⟩ := h.ins
  obtain ⟨ib, icap, F1, hiv, hitb, hicap, himax, hiR, hiF⟩ := hF.pos (by omega)
  obtain ⟨pb, pcap, P1, hpv, hptb, hpcap, hpmax, hpR, hpF⟩ := h.places.pos (by omega)
  have hn3 := h.small
  have XI : Hid (Ix w tb tf n m ids pos mb ∧ w.rowIs ib 112 (icap * 6) F1 ∧ tf 4 = .slice (some ⟨ib, 0, none⟩) n icap) := ⟨h, hiR, hiv⟩
  have XP : Hid (tf 1 = .slice (some ⟨pb, 0, none⟩) n pcap ∧ w.rowIs pb 92 (pcap * 9) P1 ∧ ∀ k, k < 9 → P1 (i * 9 + k) = zp k) := ⟨hpv, hpR, fun k hk => by rw [hpF _ (by omega)]; show zp ((i * 9 + k) % 9) = _; congr 1; omega⟩
  obtain ⟨cf, hcf⟩ := h.complete
  obtain ⟨cb, ccap, C1, hcv, hctb, hccap, _, hcR, hcF⟩ := hcf.pos (by omega)
  have XC : Hid (tf 3 = .slice (some ⟨cb, 0, none⟩) n ccap ∧ w.rowIs cb 4 ccap C1 ∧ C1 i = .bool (cf i) ∧ n ≤ ccap) := ⟨hcv, by simpa using hcR, hcF i (by omega), hccap⟩
  have XJ : Hid (pos i = none ∧ ∀ j p, pos j = some p → InAt F1 mb j p) := ⟨hp, fun j q hq => by
    obtain ⟨f0, f1, f2, f3, f4, f5⟩ := hI j q hq
    have hj := h.posl j q hq
    have hj2 := h.idl q hj.1
    rw [hj.2] at hj2
    exact ⟨by rw [hiF _ (by omega)]; exact f0, by rw [hiF _ (by omega)]; exact f1, by rw [hiF _ (by omega)]; exact f2, by rw [hiF _ (by omega)]; exact f3, by rw [hiF _ (by omega)]; exact f4, by rw [hiF _ (by omega)]; exact f5⟩⟩
  clear h hF hI hiv hiR hiF hpv hpR hpF hp hcf hcv hcR hcF hctb hccap
  refine calls_of_wp_marks Ybad.func28 rfl ?_
  simp only [Ybad.ntmps28, List.size_toArray, List.length_cons, List.length_nil, Nat.reduceAdd, Nat.reduceSub, Array.replicate_succ, Array.replicate_zero, List.push_toArray, List.append_toArray, List.nil_append, List.cons_append]
  go_upto_block 0 with fail
  go_cut [4, 5, 6, 7, 10] from 11 (fun _ _ _ _ _ wc => ∃ tf1 mb1 gb clock born mf c, (0 < m → mb1 = mb) ∧ Mid w tb tf (m + 1) (fun k => if k = m then i else ids k) ib icap (jrow F1 i m mb1 3) wc tf1 mb1 gb clock born mf c)
  case first =>
    go_wp2
    go_loopw [10] (fun c wr => ∃ k : Nat, k ≤ 3 ∧ c = .int .u8 (k : Int) ∧ (k = 0 → Turn [] w wr) ∧ (0 < k → ∃ tf1 mb1 gb clock born mf c, (0 < m → mb1 = mb) ∧ Mid w tb tf (m + 1) (fun k => if k = m then i else ids k) ib icap (jrow F1 i m mb1 k) wr tf1 mb1 gb clock born mf c)) (fun c _ => 3 - (intOf c).toNat)
    case atStart => exact ⟨0, by omega, rfl, fun _ => Turn.refl _ _, fun h => by omega⟩
    case round =>
      obtain ⟨k, hk, rfl, h0, h1⟩ := hrel
      rcases Nat.lt_or_ge k 3 with h3 | h3
      · match k, h3 with
        | 0, _ =>
          have hT0 := h0 rfl
          clear h0 h1
          have hx := XI.out.1.turn hT0 (by simp)
          have c1 := hx.row.cell (i := 1) (by omega)
          rw [XP.out.1] at c1
          have hc := (hT0.row XP.out.2.1 (by simp)).cell (i := i * 9 + 4) (by omega)
          rw [XP.out.2.2 4 (by omega)] at hc
          obtain ⟨V, hV⟩ : ∃ V, V = tf 5 := ⟨_, rfl⟩
          obtain ⟨lp, hlp, hlk⟩ : ∃ lp : Option Addr, ((0 < m → lp = some ⟨mb, 0, none⟩) ∧ (m = 0 → lp = none)) ∧ ∀ W, Turn [] wr W → (Instr.lookup 66 V (.agg #[.int .u8 0, .int .u32 0, .string ⟨#[]⟩]) false).run Ybad.prog W = .ok (.pointer lp) W := by
            rcases Nat.eq_zero_or_pos m with hm | hm
            · refine ⟨none, ⟨fun h => by omega, fun _ => rfl⟩, fun W hW => ?_⟩
              obtain ⟨h5 | ⟨gb, clock, _, h5, hg⟩, _⟩ := hx.grp.off hm
              · rw [hV, h5]; exact g_look_nil W
              · rw [hV, h5]; exact g_look0 (hW.obj hg (by simp))
            · refine ⟨some ⟨mb, 0, none⟩, ⟨fun _ => rfl, fun h => by omega⟩, fun W hW => ?_⟩
              obtain ⟨gb, clock, born, _, _, _, h5, hg, _⟩ := hx.grp.on hm
              rw [hV, h5]; exact g_look1 (hW.obj hg (by simp))
          have X40 : Hid (Calls Ybad.prog 40 #[.pointer (some ⟨pb, i * 9, none⟩), .int .u8 0] wr fun e w2 => e = .returned (.tuple #[.agg #[.int .u8 0, .int .u32 0, .string ⟨#[]⟩], .bool true]) ∧ Hid (Turn [] wr w2) ∧ w2.cell? ⟨tb, 5, none⟩ = some V ∧
              (∀ k, (Instr.lookup 66 V (.agg #[.int .u8 0, .int .u32 0, .string ⟨#[]⟩]) false).run Ybad.prog ((w2.alloc (.cells #[.int .u8 0, .int .u32 0, .string ⟨#[]⟩] 136)).drewN k) = .ok (.pointer lp) ((w2.alloc (.cells #[.int .u8 0, .int .u32 0, .string ⟨#[]⟩] 136)).drewN k)) ∧ tb < w2.heap.size) := by
            refine (memberOf0 pb (i * 9) wr hc).mono ?_
            rintro e w2 ⟨rfl, ht2⟩
            have r2 := ht2.row hx.row (by simp)
            exact ⟨rfl, ht2, by rw [r2.cell (by omega), hV], fun k => hlk _ ((ht2.alloc _).drewN k), r2.lt⟩
          have X0 : Hid (Turn [] w wr ∧ V = tf 5 ∧ Ix wr tb tf n m ids pos mb ∧ ((0 < m → lp = some ⟨mb, 0, none⟩) ∧ (m = 0 → lp = none))) := ⟨hT0, hV, hx, hlp⟩
          clear hT0 hV hx hlp hc hlk
          go_wp2_with (go_at_call 40; refine X40.out.mono ?_; rintro e w2 ⟨rfl, HT, e5, hlk, l2⟩)
          go_quiet (fail)
          go_upto_if 42 with fail
          go_cut [7] from 11 to 108 (fun ms wc => ∃ tf1 mb1 gb clock born mf c, ms = .pointer (some ⟨mb1, 0, none⟩) ∧ (0 < m → mb1 = mb) ∧ Mid w tb tf m ids ib icap F1 wc tf1 mb1 gb clock born mf c)
          case first =>
            refine wp_world ?_
            intro W5 hW5
            have hT5 : Turn [] wr W5 := by rw [hW5]; exact (HT.out.alloc _).drewN _
            have hx5 := X0.out.2.2.1.turn hT5 (by simp)
            have hI5 : W5.rowIs ib 112 (icap * 6) F1 := (X0.out.1.trans hT5).row XI.out.2.1 (by simp)
            have hf5 : Fr tb TJ w W5 := Fr.ofTurn (X0.out.1.trans hT5) (by simp) (by simp)
            rcases Nat.eq_zero_or_pos m with hm | hm
            · obtain rfl : lp = none := X0.out.2.2.2.2 hm
              subst hm
              obtain ⟨hoff, hases⟩ := hx5.grp.off rfl
              obtain ⟨vo, hvo⟩ : ∃ vo, V = .map vo := by
                rw [X0.out.2.1]
                rcases hoff with h5 | ⟨gb, clock, _, h5, _⟩
                · exact ⟨_, h5⟩
                · exact ⟨_, h5⟩
              have e5 := hx5.row.cell (i := 5) (by omega)
              rw [← X0.out.2.1, hvo] at e5
              have n5 := hx5.row.frozen 5
              have hb5 : W5.rowIs w2.heap.size 136 3 (fun i => (#[Value.int .u8 0, .int .u32 0, .string ⟨#[]⟩][i]?).getD undef) := by rw [hW5]; exact row_drewN (row_new w2 _ 136) _
              have X5 : Hid (Ix W5 tb tf n 0 ids pos mb ∧ W5.rowIs ib 112 (icap * 6) F1 ∧ Fr tb TJ w W5 ∧ (tf 5 = .map none ∨ ∃ gb clock, tb < gb ∧ tf 5 = .map (some gb) ∧ W5.heap[gb]? = some (.map #[] clock)) ∧ Sl W5 tb 109 1 (tf 6) 0 (fun _ => undef) ∧ tf 5 = .map vo ∧
                W5.rowIs w2.heap.size 136 3 (fun i => (#[Value.int .u8 0, .int .u32 0, .string ⟨#[]⟩][i]?).getD undef)) := ⟨hx5, hI5, hf5, hoff, hases, by rw [← X0.out.2.1, hvo], hb5⟩
              have hmm := @run_makeMap Ybad.prog
              have hme := map_eql vo
              have l5 : tb < W5.heap.size := hx5.row.lt
              clear hW5 hT5 hx5 hI5 hf5 hoff hases hb5 HT X40 hlk hvo
              go_upto_if 47 with fail
              go_cut [49] from 48 to 108 (fun _ wd => ∃ gb clock, tb < gb ∧ wd.rowIs tb 75 17 (fun k => if k = 5 then .map (some gb) else tf k) ∧ wd.heap[gb]? = some (.map #[] clock) ∧ Turn [tb] W5 wd)
              case first =>
                obtain ⟨hx5, _, _, hoff, _, h5v, _⟩ := X5.out
                rcases hoff with h5 | ⟨gb, clock, q1, h5, q3⟩
                · obtain rfl : vo = none := by rw [h5] at h5v; cases h5v; rfl
                  go_wp2
                  go_meet
                  case rel => exact ⟨W5.heap.size, 0, l5, (hx5.row.set 5 _).alloc _, by have := World.alloc_heap_new (W5.setCell ⟨tb, 5, none⟩ (.map (some W5.heap.size))) (.map #[] 0); rwa [show (W5.setCell ⟨tb, 5, none⟩ (.map (some W5.heap.size))).heap.size = W5.heap.size by simp [World.setCell]] at this, ((Turn.refl [tb] W5).setCell (.inl (by simp)) _).alloc _⟩
                · obtain rfl : vo = some gb := by rw [h5] at h5v; cases h5v; rfl
                  go_wp2
                  go_meet
                  case rel => exact ⟨gb, clock, q1, hx5.row.congr (fun k _ => by by_cases e : k = 5 <;> simp [e, h5]), q3, Turn.refl _ _⟩
              case rest =>
                obtain ⟨gb, clock, hgb, rt, hg, hTd⟩ := hcut
                obtain ⟨hx5, hI5, hf5, _, hases, _, hb5⟩ := X5.out
                obtain ⟨ao, acap, h6v⟩ := hases.form
                have rb := hTd.row hb5 (by simp; exact row_ne hb5 hx5.row (by decide))
                have ri := hTd.row hI5 (by simp; exact row_ne hI5 hx5.row (by decide))
                have hfd : Fr tb TJ w wc := hf5.trans (Fr.ofTurn hTd (by simp) (fun k hk c t fr hc => by simp at hk; subst hk; rw [cells_of_row hx5.row hc]; simp))
                have hsd : Sl wc tb 109 1 (tf 6) 0 (fun _ => undef) := hases.of (fun b o hb ho _ => hTd.obj ho (by simp; omega))
                have XD : Hid (tb < gb ∧ wc.rowIs tb 75 17 (fun k => if k = 5 then .map (some gb) else tf k) ∧ wc.heap[gb]? = some (.map #[] clock) ∧ wc.rowIs w2.heap.size 136 3 (fun i => (#[Value.int .u8 0, .int .u32 0, .string ⟨#[]⟩][i]?).getD undef) ∧ wc.rowIs ib 112 (icap * 6) F1 ∧ Fr tb TJ w wc ∧ Sl wc tb 109 1 (tf 6) 0 (fun _ => undef) ∧ tf 6 = .slice ao 0 acap) := ⟨hgb, rt, hg, rb, ri, hfd, hsd, h6v⟩
                clear hgb rt hg hTd hx5 hI5 hf5 hases hb5 h6v rb ri hfd hsd e5 n5 hmm hme l5
                go_upto_region 11 with fail
                refine wp_world ?_
                intro W6 hW6
                obtain ⟨hgb, rt, hg, rb, ri, hfd, hsd, h6v⟩ := XD.out
                have hT6 : Turn [] wc W6 := by rw [hW6]; exact (Turn.refl [] wc).alloc _
                have rM : W6.rowIs wc.heap.size 132 5 (fun i => (#[Value.slice none 0 0, .slice none 0 0, .int .i64 0, .int .i32 0, .int .i32 0][i]?).getD undef) := by rw [hW6]; exact row_new wc _ 132
                have hg6 := hT6.obj hg (by simp)
                have rt6 := hT6.row rt (by simp)
                have rb6 := hT6.row rb (by simp)
                have hlt : tb < wc.heap.size := rt.lt
                have hgl : gb < wc.heap.size := (Array.getElem?_eq_some_iff.1 hg).1
                obtain ⟨w7, hrun, hT7, hg7⟩ : ∃ w7, (Instr.mapUpdate 66 (.map (some gb)) (.agg #[.int .u8 0, .int .u32 0, .string ⟨#[]⟩]) (.pointer (some ⟨wc.heap.size, 0, none⟩))).run Ybad.prog W6.drew = .ok () w7 ∧ Turn [gb] W6 w7 ∧
                    w7.heap[gb]? = some (.map #[⟨gkey, .pointer (some ⟨wc.heap.size, 0, none⟩), clock⟩] (clock + 1)) :=
                  ⟨_, g_put (w := W6.drew) (.pointer (some ⟨wc.heap.size, 0, none⟩)) hg6, turn_setBlock (w := W6.drew) ((Turn.refl [gb] W6).drew) hg6 (.inl (by simp)) _, ChangeMaps.heap_setBlock_same (w := W6.drew) hg6 _⟩
                have c5 := rt6.cell (i := 5) (by omega)
                simp only [if_true] at c5
                have b0 := rb6.cell (i := 0) (by omega)
                have b1 := rb6.cell (i := 1) (by omega)
                have b2 := rb6.cell (i := 2) (by omega)
                have l6 : tb < W6.heap.size := rt6.lt
                have XW : Hid (Turn [gb] W6 w7 ∧ w7.heap[gb]? = some (.map #[⟨gkey, .pointer (some ⟨wc.heap.size, 0, none⟩), clock⟩] (clock + 1)) ∧ w7.rowIs tb 75 17 (fun k => if k = 5 then .map (some gb) else tf k) ∧ w7.rowIs wc.heap.size 132 5 (fun i => (#[Value.slice none 0 0, .slice none 0 0, .int .i64 0, .int .i32 0, .int .i32 0][i]?).getD undef) ∧
                    w7.rowIs ib 112 (icap * 6) F1 ∧ Fr tb TJ w w7 ∧ Sl w7 tb 109 1 (.slice ao 0 acap) 0 (fun _ => undef)) := by
                  have ri6 := hT6.row ri (by simp)
                  refine ⟨hT7, hg7, hT7.row rt6 (by simp; omega), hT7.row rM (by simp; omega), hT7.row ri6 ?_, ?_, ?_⟩
                  · obtain ⟨_, h1, _⟩ := ri6
                    simp; exact ne_of_obj h1 hg6 (by simp)
                  · exact (hfd.trans (Fr.ofTurn hT6 (by simp) (by simp))).trans (Fr.ofTurn hT7 (by simp; omega) (fun k hk c t fr hc => by simp at hk; subst hk; rw [hg6] at hc; cases hc))
                  · rw [← h6v]
                    exact (hsd.turn hT6 (by simp)).of (fun b o _ ho ⟨c, e⟩ => hT7.obj ho (by simp; rintro rfl; subst e; rw [hg6] at ho; cases ho))
                clear hW6 hT6 rM hg6 rt6 rb6 hT7 hg7 rt rb ri hg hfd hsd
                refine wp_only ?_
                go_region
                all_goals refine then_only ?_
                clear hrun c5 b0 b1 b2
                obtain ⟨_, _, rT7, rM7, _, _, hs7⟩ := XW.out
                have c6 := rT7.cell (i := 6) (by omega)
                simp only [if_neg (show ¬ (6 : Nat) = 5 by omega), h6v] at c6
                have cm4 := rM7.cell (i := 4) (by omega)
                have nm4 := rM7.frozen 4
                have l7 : tb < w7.heap.size := rT7.lt
                have l8 : wc.heap.size < w7.heap.size := rM7.lt
                have XO : Hid (∀ o, ((w7.setCell ⟨wc.heap.size, 4, none⟩ (.int .i32 0)).alloc o).ownsRow (tb + 1) 109 1 (.slice ao 0 acap) 0 ((List.range (0 * 1)).map (fun _ => undef))) := fun o => by
                  have hT : Turn [wc.heap.size] w7 ((w7.setCell ⟨wc.heap.size, 4, none⟩ (.int .i32 0)).alloc o) := ((Turn.refl [wc.heap.size] w7).setCell (.inl (by simp)) _).alloc o
                  exact (hs7.of (fun b o' _ ho ⟨c, e⟩ => hT.obj ho (by simp; rintro rfl; subst e; have := cells_of_row rM7 ho; cases this))).owns
                have XG : Hid (∀ o w8, ((w7.setCell ⟨wc.heap.size, 4, none⟩ (.int .i32 0)).alloc o).grownBy w8 (Value.slice ao 0 acap).ownBlock → w8.rowIs tb 75 17 (fun k => if k = 5 then .map (some gb) else tf k)) := fun o w8 hgr => by
                  have hT : Turn [wc.heap.size] w7 ((w7.setCell ⟨wc.heap.size, 4, none⟩ (.int .i32 0)).alloc o) := ((Turn.refl [wc.heap.size] w7).setCell (.inl (by simp)) _).alloc o
                  have hT8 : Turn (Value.slice ao 0 acap).ownBlock.toList ((w7.setCell ⟨wc.heap.size, 4, none⟩ (.int .i32 0)).alloc o) w8 := (Turn.refl _ _).grown (row := (Value.slice ao 0 acap).ownBlock) hgr (fun k e => .inl (by simp [e]))
                  exact hT8.row (hT.row rT7 (by simp; omega)) (fun hm => by
                    have := (hs7.block (by simpa using hm)).1
                    omega)
                have XN : Hid (∀ j u, [Value.pointer (some ⟨wc.heap.size, 0, none⟩)][j]? = some u → ((w7.setCell ⟨wc.heap.size, 4, none⟩ (.int .i32 0)).alloc (.cells #[.pointer (some ⟨wc.heap.size, 0, none⟩)] 109)).cell? ((⟨w7.heap.size, 0, none⟩ : Addr).add j) = some u) := by
                  have := cell_one_new (w7.setCell ⟨wc.heap.size, 4, none⟩ (.int .i32 0)) (.pointer (some ⟨wc.heap.size, 0, none⟩)) 109
                  rwa [show (w7.setCell ⟨wc.heap.size, 4, none⟩ (.int .i32 0)).heap.size = w7.heap.size by simp [World.setCell]] at this
                clear rT7 rM7 hs7 h6v
                obtain ⟨i0, hi0, hz0, hz1, hz2⟩ := info_parts info109
                go_wp2_with (at_builtin; refine wpList_append_own_at _ rfl (.tmp 75) (.tmp 77) 67 rfl (tb + 1) 109 i0 (.pointer none) 1 8 Ybad.underlying67 hi0 hz0 hz1 hz2 rfl (by decide) _ 0 _ rfl (XO.out _) ⟨w7.heap.size, 0, none⟩ 1 1 [.pointer (some ⟨wc.heap.size, 0, none⟩)] rfl rfl XN.out (by simp [Value.oneCell']) (by unfold maxLen; omega) (by omega) (by simp; omega) ?_; intro v' w8 hown' hgrow hnil hloc; obtain ⟨g', cap', rfl⟩ := own_succ hown'; have r8 := XG.out _ _ hgrow; have c8 := r8.cell (i := 6) (by omega); have n8 := r8.frozen 6; have H8 : Hid (w8.ownsRow (tb + 1) 109 1 (.slice (some ⟨g', 0, none⟩) (0 + 1) cap') (0 + 1) ((List.range (0 * 1)).map (fun _ => undef) ++ [.pointer (some ⟨wc.heap.size, 0, none⟩)]) ∧ ((w7.setCell ⟨wc.heap.size, 4, none⟩ (.int .i32 0)).alloc (.cells #[.pointer (some ⟨wc.heap.size, 0, none⟩)] 109)).grownBy w8 (Value.slice ao 0 acap).ownBlock) := ⟨hown', hgrow⟩; clear hown' hgrow hnil hloc r8)
                go_meet
                case rel =>
                  obtain ⟨hT7, hg7, rT7, rM7, ri7, hf7, hs7⟩ := XW.out
                  have h6v := XD.out.2.2.2.2.2.2.2
                  exact ⟨_, wc.heap.size, gb, clock + 1, clock, _, 0, rfl, fun h => by omega, Mid.fresh (tf5 := fun k => if k = 5 then .map (some gb) else tf k) (f0 := fun _ => undef) rT7 rfl (fun k h1 _ => if_neg h1) hgb hg7 hlt rM7 rfl rfl ri7 hf7 (by simpa [h6v] using hs7) (by simpa [h6v] using H8.out.2) H8.out.1⟩
            · obtain rfl : lp = some ⟨mb, 0, none⟩ := X0.out.2.2.2.1 hm
              obtain ⟨gb, clock, born, mf, c, q1, q2, q3, q4, q5, q6, q7, q8, q9⟩ := hx5.grp.on hm
              have XM : Hid (Mid w tb tf m ids ib icap F1 W5 tf mb gb clock born mf c) := ⟨fun _ _ _ => rfl, hx5.row, q1, q2, q3, q4, q5, q6, q7, q8, q9, hf5, hI5⟩
              clear hW5 hT5 hx5 hI5 hf5 q1 q2 q3 q4 q5 q6 q7 q8 q9 HT X40 e5 hlk
              go_wp2
              go_meet
              case rel => exact ⟨tf, mb, gb, clock, born, mf, c, rfl, fun _ => rfl, XM.out⟩
          case rest =>
            obtain ⟨tf1, mb1, gb, clock, born, mf, c, rfl, hs, M⟩ := hcut
            obtain ⟨ao, dcap, hdv⟩ := M.kids.form
            have c4 := M.krow.cell (i := 4) (by omega)
            rw [M.ktf 4 (by omega) (by omega), XI.out.2.2] at c4
            have cm := M.kmrow.cell (i := 0) (by omega)
            rw [hdv] at cm
            have nm := M.kmrow.frozen 0
            have d0 := M.kins.cell (i := i * 6) (by omega)
            have d1 := M.kins.cell (i := i * 6 + 1) (by omega)
            have n0 := M.kins.frozen (i * 6)
            have n1 := M.kins.frozen (i * 6 + 1)
            have hne : mb1 ≠ ib := row_ne M.kmrow M.kins (by decide)
            have XM : Hid ((0 < m → mb1 = mb) ∧ Mid w tb tf m ids ib icap F1 wc tf1 mb1 gb clock born mf c ∧ mf 0 = .slice ao m dcap) := ⟨hs, M, hdv⟩
            have hlm : mb1 < wc.heap.size := M.kmrow.lt
            clear hs M hdv HT X40 e5 hlk
            obtain ⟨i0, hi0, hz0, hz1, hz2⟩ := info_parts info21
            go_wp2
            refine wp_only ?_
            go_region
            all_goals refine then_only ?_
            all_goals refine q_world ?_
            all_goals intro W7 hW7
            have M7 : Mid w tb tf m ids ib icap (jrow F1 i m mb1 1) W7 tf1 mb1 gb clock born mf c := by
              obtain ⟨hs, M, hdv⟩ := XM.out
              rw [hW7]
              exact M.put ((((Turn.refl [ib] wc).setCell (.inl (by simp)) _).setCell (.inl (by simp)) _).drew) hitb ((((M.kins.set (i * 6) _).set (i * 6 + 1) _).drew).congr (fun x _ => jrow0 F1 i m mb1 x))
            clear hW7 d0 d1 n0 n1 cm nm c4 hne hlm
            have cm := M7.kmrow.cell (i := 0) (by omega)
            rw [XM.out.2.2] at cm
            have nm := M7.kmrow.frozen 0
            have hlm : mb1 < W7.heap.size := M7.kmrow.lt
            have XO : Hid (∀ o, (W7.alloc o).ownsRow (tb + 1) 21 1 (.slice ao m dcap) m ((List.range (m * 1)).map (fun k => Value.int .i32 (ids k : Int)))) := fun o => by
              have := (M7.kids.turn ((Turn.refl [] W7).alloc o) (by simp)).owns
              rw [XM.out.2.2] at this
              exact this
            have XG : Hid (∀ o w8, (W7.alloc o).grownBy w8 (Value.slice ao m dcap).ownBlock → w8.rowIs mb1 132 5 mf) := fun o w8 hg => by
              have M8 := M7.turn ((Turn.refl [] W7).alloc o)
              have hT8 : Turn (mf 0).ownBlock.toList (W7.alloc o) w8 := (Turn.refl _ _).grown (row := (mf 0).ownBlock) (by rw [XM.out.2.2]; exact hg) (fun k e => .inl (by simp [e]))
              exact hT8.row M8.kmrow (fun hm => by
                obtain ⟨_, _, hc⟩ := M8.kids.block (by simpa using hm)
                have := cells_of_row M8.kmrow hc
                cases this)
            have XT : Hid (tb + 1 ≤ W7.heap.size) := M7.krow.lt
            have X7 : Hid (Mid w tb tf m ids ib icap (jrow F1 i m mb1 1) W7 tf1 mb1 gb clock born mf c) := M7
            clear M7
            go_wp2_with (at_builtin; refine wpList_append_own_at _ rfl (.tmp 101) (.tmp 104) 127 rfl (tb + 1) 21 i0 (.int .i32 0) 1 4 Ybad.underlying127 hi0 hz0 hz1 hz2 rfl (by decide) _ m _ rfl (XO.out _) ⟨_, 0, none⟩ 1 1 [.int .i32 (i : Int)] rfl rfl (cell_one_new _ _ _) (by simp [Value.oneCell']) (by unfold maxLen; omega) (by omega) (by have := XT.out; simp; omega) ?_; intro v' w8 hown' hgrow hnil hloc; obtain ⟨g', cap', rfl⟩ := own_succ hown'; have r8 := XG.out _ _ hgrow; have c8 := r8.cell (i := 0) (by omega); have n8 := r8.frozen 0; have H8 : Hid (w8.ownsRow (tb + 1) 21 1 (.slice (some ⟨g', 0, none⟩) (m + 1) cap') (m + 1) ((List.range (m * 1)).map (fun k => Value.int .i32 (ids k : Int)) ++ [.int .i32 (i : Int)]) ∧ (W7.alloc (.cells #[.int .i32 (i : Int)] 21)).grownBy w8 (Value.slice ao m dcap).ownBlock) := ⟨hown', hgrow⟩; clear hown' hgrow hnil hloc r8)
            go_roundw
            case rel =>
              obtain ⟨hs, _, hdv⟩ := XM.out
              have MM := X7.out.grow ((Turn.refl [] W7).alloc _) (by rw [hdv]; exact H8.out.2) H8.out.1
              exact ⟨1, by omega, rfl, fun h => by omega, fun _ => ⟨tf1, mb1, gb, clock, born, _, c, hs, MM⟩⟩
            case measure => simp [intOf]
        | 1, _ =>
          obtain ⟨tf1, mb1, gb, clock, born, mf, c, hs, M⟩ := h1 (by omega)
          have XM : Hid ((0 < m → mb1 = mb) ∧ Mid w tb tf (m + 1) (fun k => if k = m then i else ids k) ib icap (jrow F1 i m mb1 1) wr tf1 mb1 gb clock born mf c) := ⟨hs, M⟩
          have c1 := M.krow.cell (i := 1) (by omega)
          rw [M.ktf 1 (by omega) (by omega), XP.out.1] at c1
          have hc := (M.kfr.row XP.out.2.1 (by decide)).cell (i := i * 9 + 6) (by omega)
          rw [XP.out.2.2 6 (by omega)] at hc
          have X40 : Hid (Calls Ybad.prog 40 #[.pointer (some ⟨pb, i * 9, none⟩), .int .u8 1] wr fun e w2 => e = .returned (.tuple #[.agg #[.int .u8 1, .int .u32 0, .string ⟨#[]⟩], .bool false]) ∧ Hid (Turn [] wr w2) ∧ w2.cell? ⟨tb, 4, none⟩ = some (.slice (some ⟨ib, 0, none⟩) n icap) ∧
              (∃ u, w2.cell? ⟨ib, i * 6 + 2, none⟩ = some u) ∧ (∃ u, w2.cell? ⟨ib, i * 6 + 3, none⟩ = some u) ∧ w2.frozen? ⟨ib, i * 6 + 2, none⟩ = false ∧ w2.frozen? ⟨ib, i * 6 + 3, none⟩ = false ∧ ib < w2.heap.size ∧ tb < w2.heap.size) := by
            refine (memberOf1 pb (i * 9) wr hc).mono ?_
            rintro e w2 ⟨rfl, ht2⟩
            have M2 := M.turn ht2
            exact ⟨rfl, ht2, by rw [M2.krow.cell (by omega), M2.ktf 4 (by omega) (by omega), XI.out.2.2], ⟨_, M2.kins.cell (by omega)⟩, ⟨_, M2.kins.cell (by omega)⟩, M2.kins.frozen _, M2.kins.frozen _, M2.kins.lt, M2.krow.lt⟩
          clear h0 h1 hs M hc
          go_wp2_with (go_at_call 40; refine X40.out.mono ?_; rintro e w2 ⟨rfl, HT, e4, ⟨u2, e2⟩, ⟨u3, e3⟩, n2, n3, l1, l2⟩)
          go_roundw
          case rel =>
            obtain ⟨hs, M⟩ := XM.out
            exact ⟨2, by omega, rfl, fun h => by omega, fun _ => ⟨tf1, mb1, gb, clock, born, mf, c, hs, (M.turn HT.out).put ((((Turn.refl [ib] w2).setCell (.inl (by simp)) _).setCell (.inl (by simp)) _).alloc _) hitb
              (((((M.turn HT.out).kins.set (i * 6 + 2) _).set (i * 6 + 2 + 1) _).alloc _).congr (fun x _ => jrow1 F1 i m mb1 x))⟩⟩
          case measure => simp [intOf]
        | 2, _ =>
          obtain ⟨tf1, mb1, gb, clock, born, mf, c, hs, M⟩ := h1 (by omega)
          have XM : Hid ((0 < m → mb1 = mb) ∧ Mid w tb tf (m + 1) (fun k => if k = m then i else ids k) ib icap (jrow F1 i m mb1 2) wr tf1 mb1 gb clock born mf c) := ⟨hs, M⟩
          have c1 := M.krow.cell (i := 1) (by omega)
          rw [M.ktf 1 (by omega) (by omega), XP.out.1] at c1
          have hc := (M.kfr.row XP.out.2.1 (by decide)).cell (i := i * 9 + 7) (by omega)
          rw [XP.out.2.2 7 (by omega)] at hc
          have X40 : Hid (Calls Ybad.prog 40 #[.pointer (some ⟨pb, i * 9, none⟩), .int .u8 2] wr fun e w2 => e = .returned (.tuple #[.agg #[.int .u8 2, .int .u32 0, .string ⟨#[]⟩], .bool false]) ∧ Hid (Turn [] wr w2) ∧ w2.cell? ⟨tb, 4, none⟩ = some (.slice (some ⟨ib, 0, none⟩) n icap) ∧
              (∃ u, w2.cell? ⟨ib, i * 6 + 4, none⟩ = some u) ∧ (∃ u, w2.cell? ⟨ib, i * 6 + 5, none⟩ = some u) ∧ w2.frozen? ⟨ib, i * 6 + 4, none⟩ = false ∧ w2.frozen? ⟨ib, i * 6 + 5, none⟩ = false ∧ ib < w2.heap.size ∧ tb < w2.heap.size) := by
            refine (memberOf2 pb (i * 9) wr hc).mono ?_
            rintro e w2 ⟨rfl, ht2⟩
            have M2 := M.turn ht2
            exact ⟨rfl, ht2, by rw [M2.krow.cell (by omega), M2.ktf 4 (by omega) (by omega), XI.out.2.2], ⟨_, M2.kins.cell (by omega)⟩, ⟨_, M2.kins.cell (by omega)⟩, M2.kins.frozen _, M2.kins.frozen _, M2.kins.lt, M2.krow.lt⟩
          clear h0 h1 hs M hc
          go_wp2_with (go_at_call 40; refine X40.out.mono ?_; rintro e w2 ⟨rfl, HT, e4, ⟨u2, e2⟩, ⟨u3, e3⟩, n2, n3, l1, l2⟩)
          go_roundw
          case rel =>
            obtain ⟨hs, M⟩ := XM.out
            exact ⟨3, by omega, rfl, fun h => by omega, fun _ => ⟨tf1, mb1, gb, clock, born, mf, c, hs, (M.turn HT.out).put ((((Turn.refl [ib] w2).setCell (.inl (by simp)) _).setCell (.inl (by simp)) _).alloc _) hitb
              (((((M.turn HT.out).kins.set (i * 6 + 4) _).set (i * 6 + 4 + 1) _).alloc _).congr (fun x _ => jrow2 F1 i m mb1 x))⟩⟩
          case measure => simp [intOf]
      · obtain rfl : k = 3 := by omega
        obtain hM := h1 (by omega)
        clear h0 h1
        go_wp2
        go_meet
        case rel => exact hM
  case rest =>
    obtain ⟨tf1, mb1, gb, clock, born, mf, c, hs, M⟩ := hcut
    have c3 := M.krow.cell (i := 3) (by omega)
    rw [M.ktf 3 (by omega) (by omega), XC.out.1] at c3
    have c4 := M.krow.cell (i := 4) (by omega)
    rw [M.ktf 4 (by omega) (by omega), XI.out.2.2] at c4
    have cc := (M.kfr.row XC.out.2.1 (by decide)).cell (i := i) (by have := XC.out.2.2.2; omega)
    rw [XC.out.2.2.1] at cc
    have d0 := M.kins.cell (i := i * 6) (by omega)
    rw [show jrow F1 i m mb1 3 (i * 6) = .pointer (some ⟨mb1, 0, none⟩) by unfold jrow; simp] at d0
    have cm := M.kmrow.cell (i := 3) (by omega)
    rw [M.km3] at cm
    have nm := M.kmrow.frozen 3
    have XM : Hid ((0 < m → mb1 = mb) ∧ Mid w tb tf (m + 1) (fun k => if k = m then i else ids k) ib icap (jrow F1 i m mb1 3) wc tf1 mb1 gb clock born mf c) := ⟨hs, M⟩
    clear hs M
    go_upto_if 115 with fail
    go_cut [10] from 115 (fun _ wd => ∃ mf' c', Mid w tb tf (m + 1) (fun k => if k = m then i else ids k) ib icap (jrow F1 i m mb1 3) wd tf1 mb1 gb clock born mf' c')
    case first =>
      cases hcb : cf i
      · go_wp2
        go_meet
        case rel => exact ⟨mf, c, XM.out.2⟩
      · go_wp2
        go_meet
        case rel => exact ⟨_, _, XM.out.2.cnt _⟩
    case rest =>
      have hs := XM.out.1
      clear c3 c4 cc d0 cm nm XM
      obtain ⟨mf', c', M⟩ := hcut
      have X41 : Hid (∀ W, Calls Ybad.prog 41 #[.pointer (some ⟨tb, 1, none⟩), .int .i64 (i : Int)] W fun e w' => e = .returned (.func (.func 55) #[] #[.pointer (some ⟨W.heap.size, 0, none⟩), .pointer (some ⟨W.heap.size + 1, 0, none⟩)]) ∧ (W.alloc (.cells #[.pointer (some ⟨tb, 1, none⟩)] 108)).alloc (.cells #[.int .i64 (i : Int)] 3) = w') := fun W => (rings_any ⟨tb, 1, none⟩ i W).mono fun e w' h => ⟨h.1, h.2.symm⟩
      go_wp2_with (go_at_call 41; refine (X41.out _).mono ?_; rintro e w' ⟨rfl, rfl⟩)
      refine wp_rangeFunc_none rfl enters55 (fun W y hW => rings_hit M.krow (by rw [M.ktf 7 (by omega) (by omega)]; exact XI.out.1.byKey) y hW) ?_
      intro W1 hW1 hD1
      have hT1 : Turn [] wc W1 := (((Turn.refl [] wc).alloc _).alloc _).trans (Turn.ofBelow hW1)
      have M1 := M.turn hT1
      have hx : Ix W1 tb tf1 n (m + 1) (fun k => if k = m then i else ids k) (fun j => if j = i then some m else pos j) mb1 :=
        XI.out.1.joined XJ.out.1 hin hmn XI.out.2.2 hitb hicap himax XJ.out.2 hs (fun b c t _ hb ht => M1.kfr.block b _ hb (.inr ⟨c, t, (0, 0), rfl, by rcases ht with rfl | rfl | rfl <;> decide⟩)) M1.krow M1.ktf
          (M1.kins.congr (fun x _ => jrow3 F1 i m mb1 x)) ⟨fun e => by omega, fun _ => ⟨gb, clock, born, mf', c', M1.kgb, M1.ktf5, M1.kmap, M1.kases, M1.kmb, M1.kmrow, M1.km3, M1.km4, M1.kids⟩⟩
      have hsz : w.heap.size ≤ wc.heap.size := M.kfr.size
      have hfr := M1.kfr.putObj (D := ((wc.alloc (.cells #[.pointer (some ⟨tb, 1, none⟩)] 108)).alloc (.cells #[.int .i64 (i : Int)] 3)).heap.size) (.deferred none) (by simp; omega)
      have htf := M1.ktf
      have hxm := hx.mark hD1 (.deferred none)
      clear M M1 hx hT1 hW1 X41
      go_frame
      go_wp2
      exact leaves_mark hD1 rfl ⟨rfl, hfr, tf1, mb1, htf, hxm⟩

end Go.Proofs.YbulkbdskDoor
