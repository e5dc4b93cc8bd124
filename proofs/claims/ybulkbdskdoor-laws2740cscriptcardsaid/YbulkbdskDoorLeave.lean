/-
  (*Index).leave.
-/
import Derived.Test.YbulkbdskDoorLeft
namespace Go.Proofs.YbulkbdskDoor
open Go Go.RowKit

theorem enters_by {P : Program} {f : FuncId} {fn : Func} {c : Code} (hf : P.funcs[f]? = some fn) (hname : (fn.name == "runtime.NumGoroutine") = false) (hb : fn.body = some c) (args : Array Value) (w : World) :
    (callFunc f args).run P w = .ok (.enter f args) w := by
  have h1 : fn.name ≠ "runtime.NumGoroutine" := by simpa using hname
  simp [callFunc, hf, h1, hb, mark]

theorem enters55 (args : Array Value) (w : World) : (callFunc 55 args).run Ybad.prog w = .ok (.enter 55 args) w := enters_by Ybad.func55 (by kernel_rfl) rfl args w

/-- The iterator that 'rings' has handed back, in a world in which nothing that was there has turned. -/
theorem rings_hit {w W : World} {tb i : Nat} {tf : Nat → Value} (hT : w.rowIs tb 75 17 tf) (h7 : tf 7 = .pointer none) (y : Value)
    (hW : Below ((w.alloc (.cells #[.pointer (some ⟨tb, 1, none⟩)] 108)).alloc (.cells #[.int .i64 (i : Int)] 3)).heap.size ((w.alloc (.cells #[.pointer (some ⟨tb, 1, none⟩)] 108)).alloc (.cells #[.int .i64 (i : Int)] 3)) W) :
    Calls Ybad.prog 55 (#[y] ++ #[.pointer (some ⟨w.heap.size, 0, none⟩), .pointer (some ⟨w.heap.size + 1, 0, none⟩)]) W fun e W' => (∃ v, e = .returned v) ∧ Same W W' := by
  have h1 : ((w.alloc (.cells #[.pointer (some ⟨tb, 1, none⟩)] 108)).alloc (.cells #[.int .i64 (i : Int)] 3)).rowIs w.heap.size 108 1 (fun k => (#[Value.pointer (some ⟨tb, 1, none⟩)][k]?).getD undef) := (row_new w _ 108).alloc _
  have h2 : ((w.alloc (.cells #[.pointer (some ⟨tb, 1, none⟩)] 108)).alloc (.cells #[.int .i64 (i : Int)] 3)).rowIs tb 75 17 tf := (hT.alloc _).alloc _
  have c1 := (h1.of_block (hW.block _ h1.lt)).cell (i := 0) (by omega)
  have c2 := (h2.of_block (hW.block _ h2.lt)).cell (i := 7) (by omega)
  rw [h7] at c2
  exact rings1_nil y tb 1 w.heap.size _ W c1 c2

set_option maxHeartbeats 2000000 in
set_option maxRecDepth 100000 in
theorem leave_any (tb i p n m mb : Nat) (tf : Nat → Value) (ids : Nat → Nat) (pos : Nat → Option Nat) (w : World) (h : Ix w tb tf n m ids pos mb) (hp : pos i = some p) :
    Calls Ybad.prog 29 #[.pointer (some ⟨tb, 1, none⟩), .int .i64 (i : Int)] w fun e w' => e = .returned (.tuple #[]) ∧ Fr tb TJ w w' ∧
      ∃ tf', (∀ k, k ≠ 6 → tf' k = tf k) ∧ Ix w' tb tf' n (m - 1) (fun k => if k = p then ids (m - 1) else ids k) (fun j => if j = i then none else if j = ids (m - 1) then some p else pos j) mb := by
  obtain ⟨hpm, hip⟩ := h.posl i p hp
  obtain ⟨hin, _⟩ := h.idl p hpm
  rw [hip] at hin
  obtain ⟨l, rfl⟩ : ∃ l, m = l + 1 := ⟨m - 1, by omega⟩
  simp only [Nat.add_sub_cancel]
  have X41 : Hid (∀ W, Calls Ybad.prog 41 #[.pointer (some ⟨tb, 1, none⟩), .int .i64 (i : Int)] W fun e w' => e = .returned (.func (.func 55) #[] #[.pointer (some ⟨W.heap.size, 0, none⟩), .pointer (some ⟨W.heap.size + 1, 0, none⟩)]) ∧ (W.alloc (.cells #[.pointer (some ⟨tb, 1, none⟩)] 108)).alloc (.cells #[.int .i64 (i : Int)] 3) = w') := fun W => (rings_any ⟨tb, 1, none⟩ i W).mono fun e w' h => ⟨h.1, h.2.symm⟩
  have XH : Hid (∀ W y, Below ((w.alloc (.cells #[.pointer (some ⟨tb, 1, none⟩)] 108)).alloc (.cells #[.int .i64 (i : Int)] 3)).heap.size ((w.alloc (.cells #[.pointer (some ⟨tb, 1, none⟩)] 108)).alloc (.cells #[.int .i64 (i : Int)] 3)) W →
    Calls Ybad.prog 55 (#[y] ++ #[.pointer (some ⟨w.heap.size, 0, none⟩), .pointer (some ⟨w.heap.size + 1, 0, none⟩)]) W fun e W' => (∃ v, e = .returned v) ∧ Same W W') := fun W y hW => rings_hit h.row h.byKey y hW
  have XI : Hid (Ix w tb tf n (l + 1) ids pos mb) := h
  refine calls_of_wp_marks Ybad.func29 rfl ?_
  simp only [Ybad.ntmps29, List.size_toArray, List.length_cons, List.length_nil, Nat.reduceAdd, Nat.reduceSub, Array.replicate_succ, Array.replicate_zero, List.push_toArray, List.append_toArray, List.nil_append, List.cons_append]
  go_wp2_with (go_at_call 41; refine (X41.out _).mono ?_; rintro e w' ⟨rfl, rfl⟩)
  refine wp_rangeFunc_none rfl enters55 (fun W y hW => XH.out W y hW) ?_
  intro W1 hW1 hD1
  have hT1 : Turn [] w W1 := (((Turn.refl [] w).alloc _).alloc _).trans (Turn.ofBelow hW1)
  obtain ⟨D, hD⟩ : ∃ D, D = ((w.alloc (.cells #[.pointer (some ⟨tb, 1, none⟩)] 108)).alloc (.cells #[.int .i64 (i : Int)] 3)).heap.size := ⟨_, rfl⟩
  have hDw : Hid (w.heap.size ≤ D) := by show w.heap.size ≤ D; rw [hD]; simp; omega
  rw [← hD] at hD1 ⊢
  have h := XI.out.turn hT1 (by simp)
  have XW : Hid (Turn [] w W1 ∧ W1.heap[D]? = some (.deferred (some [])) ∧ Ix W1 tb tf n (l + 1) ids pos mb) := ⟨hT1, hD1, h⟩
  clear hW1 hD1 hT1 hD XI XH
  obtain ⟨cf, hcf⟩ := h.complete
  obtain ⟨F, hF, hI⟩ := h.ins
  obtain ⟨ib, icap, F1, hiv, hitb, hicap, himax, hiR, hiF⟩ := hF.pos (by omega)
  obtain ⟨cb, ccap, C1, hcv, hctb, hccap, _, hcR, hcF⟩ := hcf.pos (by omega)
  obtain ⟨gb, clock, born, mf, mc, hgb, hg5, hgm, hg6, hmb, hM, hm3, hm4, hd⟩ := h.grp.on (by omega)
  have hnm := h.small
  have hmn := h.le
  have hI1 : ∀ i p, pos i = some p → InAt F1 mb i p := fun j q hq => by
    obtain ⟨f0, f1, f2, f3, f4, f5⟩ := hI j q hq
    have hj := h.posl j q hq
    have hj2 := h.idl q hj.1
    rw [hj.2] at hj2
    exact ⟨by rw [hiF _ (by omega)]; exact f0, by rw [hiF _ (by omega)]; exact f1, by rw [hiF _ (by omega)]; exact f2, by rw [hiF _ (by omega)]; exact f3, by rw [hiF _ (by omega)]; exact f4, by rw [hiF _ (by omega)]; exact f5⟩
  have c3 := h.row.cell (i := 3) (by omega)
  rw [hcv] at c3
  have c4 := h.row.cell (i := 4) (by omega)
  rw [hiv] at c4
  have cc := hcR.cell (i := i) (by omega)
  rw [hcF i (by omega)] at cc
  obtain ⟨f0, f1, f2, f3, f4, f5⟩ := hI1 i p hp
  have d0 := hiR.cell (i := i * 6) (by omega)
  rw [f0] at d0
  have cm := hM.cell (i := 3) (by omega)
  rw [hm3] at cm
  have nm := hM.frozen 3
  clear h hF hI hcf hcR hcF hiF
  go_frame
  go_upto_if 25 with fail
  go_cut [13] from 25 (fun _ wc => Turn [mb] W1 wc ∧ ∃ mf1 c1, wc.rowIs mb 132 5 mf1 ∧ mf1 0 = mf 0 ∧ mf1 3 = .int .i32 c1 ∧ mf1 4 = .int .i32 0)
  case first =>
    cases hcb : cf i
    · go_wp2
      go_meet
      case rel => exact ⟨Turn.refl _ _, mf, mc, hM, rfl, hm3, hm4⟩
    · go_wp2
      go_meet
      case rel => exact ⟨(Turn.refl _ _).setCell (.inl (by simp)) _, _, _, hM.set 3 _, rfl, rfl, hm4⟩
  case rest =>
    obtain ⟨hTc, mf1, c1, hM1, hm10, hm13, hm14⟩ := hcut
    have hne : ib ≠ mb := row_ne hiR hM (by decide)
    have hiC := hTc.row hiR (by simpa using hne)
    have d0 := hiC.cell (i := i * 6) (by omega)
    have d1 := hiC.cell (i := i * 6 + 1) (by omega)
    have d2 := hiC.cell (i := i * 6 + 2) (by omega)
    have d3 := hiC.cell (i := i * 6 + 3) (by omega)
    have d4 := hiC.cell (i := i * 6 + 4) (by omega)
    have d5 := hiC.cell (i := i * 6 + 5) (by omega)
    rw [f0] at d0
    rw [f1] at d1
    rw [f2] at d2
    rw [f3] at d3
    rw [f4] at d4
    rw [f5] at d5
    have hTC := (hTc.row XW.out.2.2.row (by simp; omega))
    have c4 := hTC.cell (i := 4) (by omega)
    rw [hiv] at c4
    obtain ⟨db, dcap, G1, hdv, hdtb, hdcap, hdmax, hdR, hdF⟩ := hd.pos (by omega)
    obtain ⟨ab, acap, A1, hav, habtb, hacap, hamax, haR, haF⟩ := hg6.pos (by omega)
    obtain ⟨pb, pcap, P1, hpv, hptb, hpcap, hpmax, hpR, hpF⟩ := XW.out.2.2.places.pos (by omega)
    simp only [Nat.mul_one] at hdR haR hdF haF
    have XA : Hid ((tf 4 = .slice (some ⟨ib, 0, none⟩) n icap ∧ tb < ib ∧ n ≤ icap ∧ icap ≤ maxLen ∧ W1.rowIs ib 112 (icap * 6) F1 ∧ ∀ i p, pos i = some p → InAt F1 mb i p) ∧
      (tb < mb ∧ (∃ mf, W1.rowIs mb 132 5 mf) ∧ mf 0 = .slice (some ⟨db, 0, none⟩) (l + 1) dcap) ∧ (tb < db ∧ l + 1 ≤ dcap ∧ dcap ≤ maxLen ∧ W1.rowIs db 21 dcap G1 ∧ ∀ k, k < l + 1 → G1 k = .int .i32 (ids k : Int)) ∧
      (tf 6 = .slice (some ⟨ab, 0, none⟩) 1 acap ∧ tb < ab ∧ 1 ≤ acap ∧ acap ≤ maxLen ∧ W1.rowIs ab 109 acap A1 ∧ A1 0 = .pointer (some ⟨mb, 0, none⟩)) ∧
      (tb < gb ∧ tf 5 = .map (some gb) ∧ W1.heap[gb]? = some (.map #[⟨gkey, .pointer (some ⟨mb, 0, none⟩), born⟩] clock)) ∧
      (tf 1 = .slice (some ⟨pb, 0, none⟩) n pcap ∧ W1.rowIs pb 92 (pcap * 9) P1 ∧ P1 (i * 9 + 4) = .int .u32 0 ∧ n ≤ pcap)) :=
      ⟨⟨hiv, hitb, hicap, himax, hiR, hI1⟩, ⟨hmb, ⟨_, hM⟩, hdv⟩, ⟨hdtb, hdcap, hdmax, hdR, hdF⟩, ⟨hav, habtb, hacap, hamax, haR, haF 0 (by omega)⟩, ⟨hgb, hg5, hgm⟩, ⟨hpv, hpR, by rw [hpF _ (by omega)]; show zp ((i * 9 + 4) % 9) = _; rw [show (i * 9 + 4) % 9 = 4 by omega]; rfl, hpcap⟩⟩
    have XC : Hid (Turn [mb] W1 wc ∧ ∃ mf1 c1, wc.rowIs mb 132 5 mf1 ∧ mf1 0 = mf 0 ∧ mf1 3 = .int .i32 c1 ∧ mf1 4 = .int .i32 0) := ⟨hTc, mf1, c1, hM1, hm10, hm13, hm14⟩
    have XP : Hid (pos i = some p ∧ ids p = i) := ⟨hp, hip⟩
    go_wp2
    clear d0 d1 d2 d3 d4 d5 c4 hTC hiC hne hM1 hm10 hm13 hm14 hTc hdv hdR hdF hav haR haF hpv hpR hpF hiv hiR hI1 hM hm3 hm4 hd hg5 hgm hg6 c3 cc f0 f1 f2 f3 f4 f5 cm nm hcv hip hp
    go_loopw [48] (fun c wr => ∃ k : Nat, k ≤ 3 ∧ c = .int .i64 (k : Int) ∧ (k = 0 → Turn [mb] W1 wr ∧ ∃ mf1 c1, wr.rowIs mb 132 5 mf1 ∧ mf1 0 = mf 0 ∧ mf1 3 = .int .i32 c1 ∧ mf1 4 = .int .i32 0) ∧
        (0 < k → wr.heap[D]? = some (.deferred (some [])) ∧ Fr tb TJ W1 wr ∧ ∃ tf', (∀ k, k ≠ 6 → tf' k = tf k) ∧ Ix wr tb tf' n l (fun k => if k = p then ids l else ids k) (fun j => if j = i then none else if j = ids l then some p else pos j) mb)) (fun c _ => 3 - (intOf c).toNat)
    case atStart => exact ⟨0, by omega, rfl, fun _ => XC.out, fun h => by omega⟩
    case round =>
      obtain ⟨k, hk, rfl, h0, h1⟩ := hrel
      rcases Nat.lt_or_ge k 3 with h3 | h3
      · match k, h3 with
        | 0, _ =>
          have hix := index112_0
          obtain ⟨hTw, mf1, c1, hM1, hm10, hm13, hm14⟩ := h0 rfl
          clear h0 h1
          obtain ⟨⟨hiv, hitb, hicap, himax, hiR, hI1⟩, ⟨hmb, ⟨mf0, hM⟩, hdv⟩, ⟨hdtb, hdcap, hdmax, hdR, hG⟩, ⟨hav, habtb, hacap, hamax, haR, ha0⟩, ⟨hgb, hg5, hgm⟩, ⟨hpv, hpR, hp4, hpcap⟩⟩ := XA.out
          have hn1 : ib ≠ mb := row_ne hiR hM (by decide)
          have hn2 : db ≠ mb := row_ne hdR hM (by decide)
          have hn3 : ib ≠ db := row_ne hiR hdR (by decide)
          have hn4 : tb ≠ mb := row_ne XW.out.2.2.row hM (by decide)
          have hn5 : tb ≠ db := row_ne XW.out.2.2.row hdR (by decide)
          have hq := (XW.out.2.2.idl l (by omega)).1
          have hIr := hTw.row hiR (by simpa using hn1)
          have hDr := hTw.row hdR (by simpa using hn2)
          have hTr := hTw.row XW.out.2.2.row (by simpa using hn4)
          have X44 : Hid (Calls Ybad.prog 44 #[.pointer (some ⟨mb, 0, none⟩), .int .i32 (p : Int)] (wr.alloc (.cells #[.pointer (some ⟨mb, 0, none⟩), .int .i32 (p : Int)] 111)) fun e w2 => e = .returned (.int .i32 (if p = l then -1 else (ids l : Int))) ∧
            Hid (Turn [mb, db] (wr.alloc (.cells #[.pointer (some ⟨mb, 0, none⟩), .int .i32 (p : Int)] 111)) w2 ∧ w2.rowIs mb 132 5 (fun k => if k = 0 then .slice (some ⟨db, 0, none⟩) l dcap else mf1 k) ∧ w2.rowIs db 21 dcap (fun k => if k = p then .int .i32 (ids l : Int) else G1 k)) ∧
            w2.cell? ⟨tb, 4, none⟩ = some (.slice (some ⟨ib, 0, none⟩) n icap) ∧ w2.cell? ⟨tb, 1, none⟩ = some (.slice (some ⟨pb, 0, none⟩) n pcap) ∧ w2.cell? ⟨wr.heap.size, 0, none⟩ = some (.pointer (some ⟨mb, 0, none⟩)) ∧ w2.cell? ⟨wr.heap.size, 1, none⟩ = some (.int .i32 (p : Int)) ∧ w2.cell? ⟨mb, 0, none⟩ = some (.slice (some ⟨db, 0, none⟩) l dcap) ∧
            w2.cell? ⟨ib, ids l * 6 + 1, none⟩ = some (F1 (ids l * 6 + 1)) ∧ w2.frozen? ⟨ib, ids l * 6 + 1, none⟩ = false) := by
            refine (mremove_any mb (l + 1) dcap db p mf1 G1 ids _ (hM1.alloc _) (by rw [hm10]; exact hdv) (by omega) hdcap (by omega) (hDr.alloc _) hG).mono ?_
            rintro e w2 ⟨rfl, ht2, rM2, rD2⟩
            simp only [Nat.add_sub_cancel] at rM2 rD2
            have r1 := ht2.row (hTr.alloc _) (by simp; exact ⟨hn4, hn5⟩)
            have r2 := ht2.row (row_new wr #[.pointer (some ⟨mb, 0, none⟩), .int .i32 (p : Int)] 111) (by simp; exact ⟨by have := hM1.lt; omega, by have := hDr.lt; omega⟩)
            have r3 := ht2.row (hIr.alloc _) (by simp; exact ⟨hn1, hn3⟩)
            exact ⟨by simp, ⟨ht2, rM2, rD2⟩, by rw [r1.cell (by omega), hiv], by rw [r1.cell (by omega), hpv], by rw [r2.cell (by simp)]; rfl, by rw [r2.cell (by simp)]; rfl, by rw [rM2.cell (by omega)]; rfl, r3.cell (by omega), r3.frozen _⟩
          have XB : Hid (Turn [mb] W1 wr ∧ mf1 3 = .int .i32 c1 ∧ mf1 4 = .int .i32 0 ∧ wr.rowIs ib 112 (icap * 6) F1) := ⟨hTw, hm13, hm14, hIr⟩
          have hib : ib < wr.heap.size := hIr.lt
          have htb : tb < wr.heap.size := hTr.lt
          have hmbl : mb < wr.heap.size := hM1.lt
          have XN : Hid (mb < W1.heap.size ∧ db < W1.heap.size ∧ D ∉ [mb, db, ib]) := ⟨hM.lt, hdR.lt, by
            obtain ⟨c1, h1, _⟩ := hM
            obtain ⟨c2, h2, _⟩ := hdR
            obtain ⟨c3, h3, _⟩ := hiR
            simp
            exact ⟨ne_of_obj XW.out.2.1 h1 (by simp), ne_of_obj XW.out.2.1 h2 (by simp), ne_of_obj XW.out.2.1 h3 (by simp)⟩⟩
          clear hiv hI1 hiR hM hdv hdR hG hav haR ha0 hg5 hgm hpv hpR hp4 hIr hDr hTr hM1 hm10 hm13 hm14 hTw hn2 hn5
          rcases Nat.eq_zero_or_pos l with hl | hl
          · subst hl
            obtain rfl : p = 0 := by omega
            simp only [if_true] at X44
            have X40 : Hid (∀ W, Turn [mb, db] (wr.alloc (.cells #[.pointer (some ⟨mb, 0, none⟩), .int .i32 ((0 : Nat) : Int)] 111)) W → Calls Ybad.prog 40 #[.pointer (some ⟨pb, i * 9, none⟩), .int .u8 0] W fun e w3 => e = .returned (.tuple #[.agg #[.int .u8 0, .int .u32 0, .string ⟨#[]⟩], .bool true]) ∧
                Hid (Turn [] W w3 ∧ w3.heap[gb]? = some (.map #[⟨gkey, .pointer (some ⟨mb, 0, none⟩), born⟩] clock)) ∧ w3.cell? ⟨tb, 5, none⟩ = some (.map (some gb)) ∧ tb < w3.heap.size) := fun W hW => by
              obtain ⟨hTw, hm13, hm14, hIr⟩ := XB.out
              obtain ⟨_, ⟨hmb, ⟨mf0, hM⟩, hdv⟩, ⟨hdtb, hdcap, hdmax, hdR, hG⟩, _, ⟨hgb, hg5, hgm⟩, ⟨hpv, hpR, hp4, hpcap⟩⟩ := XA.out
              have hTa : Turn [mb, db] W1 W := ((hTw.mono (by simp)).alloc _).trans hW
              have hpb : pb ∉ [mb, db] := by simp; exact ⟨row_ne hpR hM (by decide), row_ne hpR hdR (by decide)⟩
              refine (memberOf0 pb (i * 9) W (by rw [(hTa.row hpR hpb).cell (by omega), hp4])).mono ?_
              rintro e w3 ⟨rfl, ht3⟩
              have hTb := hTa.trans (ht3.mono (by simp))
              have r1 := hTb.row XW.out.2.2.row (by simp; exact ⟨hn4, row_ne XW.out.2.2.row hdR (by decide)⟩)
              refine ⟨rfl, ⟨ht3, hTb.obj hgm ?_⟩, by rw [r1.cell (by omega), hg5], r1.lt⟩
              obtain ⟨_, h1, _⟩ := hM
              obtain ⟨_, h2, _⟩ := hdR
              simp
              exact ⟨ne_of_obj hgm h1 (by simp), ne_of_obj hgm h2 (by simp)⟩
            have X45 : Hid (∀ W mf2, Turn [mb, db, gb] W1 W → W.rowIs mb 132 5 mf2 → mf2 4 = .int .i32 0 → Calls Ybad.prog 45 #[.pointer (some ⟨tb, 1, none⟩), .pointer (some ⟨mb, 0, none⟩)] W fun e w5 => e = .returned (.tuple #[]) ∧
                Hid (Turn [tb, ab, mb] W w5 ∧ w5.rowIs tb 75 17 (fun k => if k = 6 then .slice (some ⟨ab, 0, none⟩) 0 acap else tf k) ∧ (∃ af', w5.rowIs ab 109 acap af'))) := fun W mf2 hW hM2 h24 => by
              obtain ⟨_, ⟨hmb, ⟨mf0, hM⟩, hdv⟩, ⟨hdtb, hdcap, hdmax, hdR, hG⟩, ⟨hav, habtb, hacap, hamax, haR, ha0⟩, ⟨hgb, hg5, hgm⟩, _⟩ := XA.out
              have n1 : tb ∉ [mb, db, gb] := by
                obtain ⟨_, h1, _⟩ := XW.out.2.2.row
                simp
                exact ⟨hn4, row_ne XW.out.2.2.row hdR (by decide), ne_of_obj h1 hgm (by simp)⟩
              have n2 : ab ∉ [mb, db, gb] := by
                have h1 := haR
                obtain ⟨_, h1, _⟩ := h1
                simp
                exact ⟨row_ne haR hM (by decide), row_ne haR hdR (by decide), ne_of_obj h1 hgm (by simp)⟩
              exact (dropAS_any tb ab acap mb tf A1 mf2 W (hW.row XW.out.2.2.row n1) hav (hW.row haR n2) hacap ha0 hM2 h24).mono fun e w5 ⟨he, h1, h2, h3, _⟩ => ⟨he, h1, h2, h3⟩
            have XFin : Hid (∀ w4 w5, (Turn [mb, db, gb] W1 w4 ∧ w4.heap[gb]? = some (.map #[] clock) ∧ w4.rowIs mb 132 5 (fun k => if k = 0 then .slice (some ⟨db, 0, none⟩) 0 dcap else mf1 k) ∧ mf1 4 = .int .i32 0) →
                (Turn [tb, ab, mb] w4 w5 ∧ w5.rowIs tb 75 17 (fun k => if k = 6 then .slice (some ⟨ab, 0, none⟩) 0 acap else tf k) ∧ (∃ af', w5.rowIs ab 109 acap af')) →
                w5.heap[D]? = some (.deferred (some [])) ∧ Fr tb TJ W1 w5 ∧ ∃ tf', (∀ k, k ≠ 6 → tf' k = tf k) ∧ Ix w5 tb tf' n 0 (fun k => if k = 0 then ids 0 else ids k) (fun j => if j = i then none else if j = ids 0 then some 0 else pos j) mb) := by
              rintro w4 w5 ⟨hT4, hg4, _⟩ ⟨ht5, rT5, af', rA5⟩
              obtain ⟨⟨hiv, hitb, hicap, himax, hiR, hI1⟩, ⟨hmb, ⟨mf0, hM⟩, hdv⟩, ⟨hdtb, hdcap, hdmax, hdR, hG⟩, ⟨hav, habtb, hacap, hamax, haR, ha0⟩, ⟨hgb, hg5, hgm⟩, _⟩ := XA.out
              have hT : Turn [mb, db, tb, ab, gb] W1 w5 := (hT4.mono (by simp)).trans (ht5.mono (by simp))
              have hng : gb ∉ [tb, ab, mb] := by
                obtain ⟨_, h1, _⟩ := XW.out.2.2.row
                have h2 := haR
                obtain ⟨_, h2, _⟩ := h2
                have h3 := hM
                obtain ⟨_, h3, _⟩ := h3
                simp
                exact ⟨ne_of_obj hgm h1 (by simp), ne_of_obj hgm h2 (by simp), ne_of_obj hgm h3 (by simp)⟩
              have hDn : D ∉ [mb, db, tb, ab, gb] := by
                obtain ⟨_, h1, _⟩ := XW.out.2.2.row
                have h2 := haR
                obtain ⟨_, h2, _⟩ := h2
                have h3 := XN.out.2.2
                simp at h3
                simp
                exact ⟨h3.1, h3.2.1, ne_of_obj XW.out.2.1 h1 (by simp), ne_of_obj XW.out.2.1 h2 (by simp), ne_of_obj XW.out.2.1 hgm (by simp)⟩
              exact ⟨hT.obj XW.out.2.1 hDn, leave_last XW.out.2.2 XP.out.1 hiv hitb hicap himax hI1 hiR hmb hM hdtb hdR hgb hg5 hgm habtb hamax haR hT rT5 rA5 (ht5.obj hg4 hng)⟩
            go_wp2_with (first | (go_at_call 44; refine X44.out.mono ?_; rintro e w2 ⟨rfl, HX, e4, e1, b0, b1, m0, i1, n1⟩) | (go_at_call 40; refine (X40.out _ HX.out.1).mono ?_; rintro e w3 ⟨rfl, HG, e5, ltb⟩))
            have XDel : Hid (∀ W ty, Turn [] w3 W → ∃ w', (Builtin.delete_ #[66, 136] ty #[.map (some gb), .agg #[.int .u8 0, .int .u32 0, .string ⟨#[]⟩]]).run Ybad.prog W = .ok (.tuple #[]) w' ∧
                (Hid (Turn [mb, db, gb] W1 w' ∧ w'.heap[gb]? = some (.map #[] clock) ∧ w'.rowIs mb 132 5 (fun k => if k = 0 then .slice (some ⟨db, 0, none⟩) 0 dcap else mf1 k) ∧ mf1 4 = .int .i32 0) ∧ w'.cell? ⟨wr.heap.size, 0, none⟩ = some (.pointer (some ⟨mb, 0, none⟩)))) := fun W ty hW => by
              obtain ⟨hTw, hm13, hm14, hIr⟩ := XB.out
              obtain ⟨_, ⟨hmb, ⟨mf0, hM⟩, hdv⟩, _, _, ⟨hgb, hg5, hgm⟩, _⟩ := XA.out
              obtain ⟨ht2, rM2, rD2⟩ := HX.out
              obtain ⟨ht3, hg3⟩ := HG.out
              have hg4 := hW.obj hg3 (by simp)
              have hTa : Turn [mb, db, gb] W1 W := (((hTw.mono (by simp)).alloc _).trans (ht2.mono (by simp))).trans ((ht3.trans hW).mono (by simp))
              have hgW : gb < W1.heap.size := (Array.getElem?_eq_some_iff.1 hgm).1
              have hTs := turn_setBlock (ks := [gb]) (Turn.refl [gb] W) hg4 (.inl (by simp)) (.map #[] clock)
              have hTm := (ht3.trans hW)
              have hngm : mb ≠ gb := by
                obtain ⟨_, h1, _⟩ := hM
                exact ne_of_obj h1 hgm (by simp)
              refine ⟨_, g_del hg4, ⟨hTa.trans (hTs.mono (by simp)), ChangeMaps.heap_setBlock_same hg4 _, hTs.row (hTm.row rM2 (by simp)) (by simpa using hngm), hm14⟩, ?_⟩
              have hlt := World.block_lt_of_cell? w2 ⟨wr.heap.size, 0, none⟩ b0
              rw [← b0]
              exact (World.cell?_of_block (a := ⟨wr.heap.size, 0, none⟩) (hTs.block _ (Nat.lt_of_lt_of_le hlt hTm.size) (by have := hTw.size; simp; omega))).trans (World.cell?_of_block (a := ⟨wr.heap.size, 0, none⟩) (hTm.block _ hlt (by simp)))
            refine wp_only ?_
            go_region_law (refine step_delete rfl (.tmp 95) (.tmp 96) 66 136 rfl _ _ rfl rfl _ (XDel.out _ _ (by exact ((Turn.refl [] w3).alloc _).drew)) ?_; rintro w4 ⟨HD, b4⟩)
            all_goals refine then_only ?_
            all_goals go_wp2_with (go_at_call 45; refine (X45.out _ _ HD.out.1 HD.out.2.2.1 HD.out.2.2.2).mono ?_; rintro e w5 ⟨rfl, H5⟩)
            all_goals go_roundw
            all_goals first | ((repeat apply Exists.intro); exact ⟨⟨1, by omega, rfl, fun h => by omega, fun _ => XFin.out _ _ HD.out H5.out⟩, rfl⟩) | (show 3 - (intOf (.int .i64 1)).toNat < 3 - (intOf (.int .i64 ((0 : Nat) : Int))).toNat; simp [intOf])
          · by_cases hpl : p = l
            · subst hpl
              simp only [if_true] at X44
              go_wp2_with (go_at_call 44; refine X44.out.mono ?_; rintro e w2 ⟨rfl, HX, e4, e1, b0, b1, m0, i1, n1⟩)
              go_roundw
              case rel =>
                obtain ⟨ht2, rM2, rD2⟩ := HX.out
                obtain ⟨hTw, hm13, hm14, hIr⟩ := XB.out
                obtain ⟨⟨hiv, hitb, hicap, himax, hiR, hI1⟩, ⟨hmb, hM, hdv⟩, ⟨hdtb, hdcap, hdmax, hdR, hG⟩, _⟩ := XA.out
                have hT : Turn [mb, db, ib] W1 w2 := ((hTw.mono (by simp)).alloc _).trans (ht2.mono (by simp))
                exact ⟨1, by omega, rfl, fun h => by omega, fun _ => ⟨hT.obj XW.out.2.1 XN.out.2.2, leave_some XW.out.2.2 XP.out.1 hl hiv hitb hicap himax hI1 hiR hmb hM hm13 hm14 hdtb hdcap hdmax hdR hG hT rM2 rD2
                  ((ht2.row (hIr.alloc _) (by simp; exact ⟨hn1, hn3⟩)).congr (fun k _ => by simp))⟩⟩
              case measure => simp [intOf]
            · rw [if_neg hpl] at X44
              go_wp2_with (go_at_call 44; refine X44.out.mono ?_; rintro e w2 ⟨rfl, HX, e4, e1, b0, b1, m0, i1, n1⟩)
              go_region
              all_goals go_wp2
              all_goals go_roundw
              case rel =>
                obtain ⟨ht2, rM2, rD2⟩ := HX.out
                obtain ⟨hTw, hm13, hm14, hIr⟩ := XB.out
                obtain ⟨⟨hiv, hitb, hicap, himax, hiR, hI1⟩, ⟨hmb, hM, hdv⟩, ⟨hdtb, hdcap, hdmax, hdR, hG⟩, _⟩ := XA.out
                have hT : Turn [mb, db, ib] W1 (w2.setCell ⟨ib, ids l * 6 + 1, none⟩ (.int .i32 (p : Int))).drew := ((((hTw.mono (by simp)).alloc _).trans (ht2.mono (by simp))).setCell (.inl (by simp)) _).drew
                have rI := (ht2.row (hIr.alloc _) (by simp; exact ⟨hn1, hn3⟩)).set (ids l * 6 + 1) (.int .i32 (p : Int))
                exact ⟨1, by omega, rfl, fun h => by omega, fun _ => ⟨hT.obj XW.out.2.1 XN.out.2.2, leave_some XW.out.2.2 XP.out.1 hl hiv hitb hicap himax hI1 hiR hmb hM hm13 hm14 hdtb hdcap hdmax hdR hG hT
                  (rM2.setOther (a := ⟨ib, ids l * 6 + 1, none⟩) hn1.symm _).drew (rD2.setOther (a := ⟨ib, ids l * 6 + 1, none⟩) hn3.symm _).drew (rI.drew.congr (fun k _ => by simp [hpl]))⟩⟩
              case measure => simp [intOf]
        | 1, _ =>
          have hix := index112_1
          obtain ⟨hDr, hfr, tf', ht', hix'⟩ := h1 (by omega)
          have XX : Hid (wr.heap[D]? = some (.deferred (some [])) ∧ Fr tb TJ W1 wr ∧ ∃ tf', (∀ k, k ≠ 6 → tf' k = tf k) ∧ Ix wr tb tf' n l (fun k => if k = p then ids l else ids k) (fun j => if j = i then none else if j = ids l then some p else pos j) mb) := ⟨hDr, hfr, tf', ht', hix'⟩
          clear h0 h1 hDr hfr ht' hix'
          go_wp2
          go_roundw
          case rel =>
            obtain ⟨hDr, hfr, tf', ht', hix'⟩ := XX.out
            exact ⟨2, by omega, rfl, fun h => by omega, fun _ => ⟨((Turn.refl [] wr).alloc _).obj hDr (by simp), hfr.alloc _, tf', ht', hix'.turn ((Turn.refl [] wr).alloc _) (by simp)⟩⟩
          case measure => simp [intOf]
        | 2, _ =>
          have hix := index112_2
          obtain ⟨hDr, hfr, tf', ht', hix'⟩ := h1 (by omega)
          have XX : Hid (wr.heap[D]? = some (.deferred (some [])) ∧ Fr tb TJ W1 wr ∧ ∃ tf', (∀ k, k ≠ 6 → tf' k = tf k) ∧ Ix wr tb tf' n l (fun k => if k = p then ids l else ids k) (fun j => if j = i then none else if j = ids l then some p else pos j) mb) := ⟨hDr, hfr, tf', ht', hix'⟩
          clear h0 h1 hDr hfr ht' hix'
          go_wp2
          go_roundw
          case rel =>
            obtain ⟨hDr, hfr, tf', ht', hix'⟩ := XX.out
            exact ⟨3, by omega, rfl, fun h => by omega, fun _ => ⟨((Turn.refl [] wr).alloc _).obj hDr (by simp), hfr.alloc _, tf', ht', hix'.turn ((Turn.refl [] wr).alloc _) (by simp)⟩⟩
          case measure => simp [intOf]
      · obtain rfl : k = 3 := by omega
        obtain ⟨hDr, hfr, tf', ht', hix'⟩ := h1 (by omega)
        go_wp2
        exact leaves_mark hDr rfl ⟨rfl, ((Fr.ofTurn XW.out.1 (by simp) (by simp)).trans hfr).putObj _ hDw.out, tf', ht', hix'.mark hDr _⟩

end Go.Proofs.YbulkbdskDoor
