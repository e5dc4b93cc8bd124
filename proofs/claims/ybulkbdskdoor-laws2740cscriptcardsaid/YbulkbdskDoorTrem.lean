/-
  (*torrent).remove.
-/
import Derived.Test.YbulkbdskDoorBridge
namespace Go.Proofs.YbulkbdskDoor
open Go Go.RowKit

def del1 (f : Nat → Option Int) (a : Nat) : Nat → Option Int := fun x => if x = a then none else f x

theorem Tor.same {w : World} {g : Nat} {tf : Nat → Value} {pf pf' : Nat → Peer} {n nx c dl nb ns : Nat} {fi fe fi' fe' : Nat → Option Int} {ni ne : Nat} (h : Tor w g tf pf n nx c dl nb ns fi fe ni ne)
    (hp : ∀ j, j < n → pf j = pf' j) (hi : ∀ x, x < 4 → fi x = fi' x) (he : ∀ x, x < 3 → fe x = fe' x) : Tor w g tf pf' n nx c dl nb ns fi' fe' ni ne :=
  { h with
    ps := h.ps.congr (fun k hk => by unfold prow; rw [hp _ (by omega)])
    mi := h.mi.congr hi rfl
    me := h.me.congr he rfl
    ok := fun j hj => by rw [← hp j hj]; exact h.ok j hj }

theorem Tor.at {w : World} {g : Nat} {tf : Nat → Value} {pf : Nat → Peer} {n nx c dl nb ns : Nat} {fi fe : Nat → Option Int} {ni ne pb cap : Nat} (h : Tor w g tf pf n nx c dl nb ns fi fe ni ne) (hv : tf 0 = .slice (some ⟨pb, 0, none⟩) n cap) (hn : 0 < n) :
    ∃ F, Slot w (g + 4) (tf 0) n pb cap F pf := by
  obtain ⟨pb', cap', F, S⟩ := h.ps.slot hn
  have := S.val
  rw [hv] at this
  cases this
  exact ⟨F, S⟩

/-- swap, of one peer with itself too. -/
theorem tswap (g i j n c dl nb ns : Nat) (tf : Nat → Value) (pf : Nat → Peer) (fi fe : Nat → Option Int) (ni ne : Nat) (w : World) (h : Tor w g tf pf n n c dl nb ns fi fe ni ne) (hi : i < n) (hj : j < n)
    (h1 : fi (pf i).id = some (i : Int) ∧ fi (pf j).id = some (j : Int) ∧ fe (pf i).port = some (i : Int) ∧ fe (pf j).port = some (j : Int)) :
    Calls Ybad.prog 26 #[.pointer (some ⟨g + 4, 0, none⟩), .int .i64 (i : Int), .int .i64 (j : Int)] w fun e w' => e = .returned (.tuple #[]) ∧ Fr g TY w w' ∧
      Tor w' g tf (sw pf i j) n n c dl nb ns (put1 (put1 fi (pf j).id i) (pf i).id j) (put1 (put1 fe (pf j).port i) (pf i).port j) ni ne := by
  by_cases hij : i = j
  · subst hij
    refine (tswap_same ⟨g + 4, 0, none⟩ i w).mono ?_
    rintro e w' ⟨rfl, rfl⟩
    refine ⟨rfl, Fr.refl _ _ _, h.same (fun k _ => ?_) (fun x _ => ?_) (fun x _ => ?_)⟩
    · unfold sw
      by_cases e : k = i <;> simp [e]
    · unfold put1
      by_cases e : x = (pf i).id
      · rw [if_pos e, e]; exact h1.1
      · rw [if_neg e, if_neg e]
    · unfold put1
      by_cases e : x = (pf i).port
      · rw [if_pos e, e]; exact h1.2.2.1
      · rw [if_neg e, if_neg e]
  · exact tswap_any g i j n c dl nb ns tf pf fi fe ni ne w h hi hj hij (by rw [h1.1, h1.2.1, h1.2.2.1, h1.2.2.2]; exact ⟨rfl, rfl, rfl, rfl⟩)

/-- A box of one peer. -/
theorem box_peer {W V : World} {z : Array Value} {p : Peer} (hz : z.size = 61) (hV : V = (W.alloc (.cells z 77)).setCells W.heap.size 0 (pcs p)) : Turn [] W V ∧ V.rowIs W.heap.size 77 61 (pcell p) ∧ W.heap.size < V.heap.size := by
  have r := rowIs_setCells (cs := pcs p) (o := 0) (row_new W z 77)
  have hT : Turn [] W V := by
    rw [hV]
    exact ((Turn.refl [] W).alloc _).setCells (.inr (Nat.le_refl _))
  rw [← hV, hz] at r
  have r2 : V.rowIs W.heap.size 77 61 (pcell p) := r.congr (fun k hk => by
    rw [if_pos (by omega), Nat.sub_zero, pcs_at _ hk]
    rfl)
  exact ⟨hT, r2, r2.lt⟩

theorem psz (p : Peer) : (pcs p).toArray.size = 61 := by rw [List.size_toArray, pcs_length]

theorem there_new {w : World} {z : Array Value} {t : TypeId} {n : Nat} (hz : z.size = n) : (w.alloc (.cells z t)).there w.heap.size 0 n := fun k hk => by
  have r := row_new w z t
  rw [hz] at r
  exact ⟨by rw [Nat.zero_add, r.cell hk]; rfl, r.frozen _⟩

section
variable {w : World} {g : Nat} {tf : Nat → Value} {pf : Nat → Peer} {n nx c dl nb ns : Nat} {fi fe : Nat → Option Int} {ni ne : Nat}

theorem tdel_id (h : Tor w g tf pf n nx c dl nb ns fi fe ni ne) {x : Nat} (hx : x < 4) (hs : (fi x).isSome) : ∃ w', (∀ ty, (Builtin.delete_ #[71, 50] ty #[.map (some (g + 1)), idV x]).run Ybad.prog w.drew = .ok (.tuple #[]) w') ∧ Turn [g + 1] w w' ∧ Tor w' g tf pf n nx c dl nb ns (del1 fi x) fe (ni - 1) ne := by
  obtain ⟨W1, e1, t1, m1⟩ := (h.mi.turn ((Turn.refl [] w).drew) (by simp)).del ids_ok Ybad.underlying71 hx 0
  rw [if_pos hs] at m1
  have t1' : Turn [g + 1] w W1 := ((Turn.refl [g + 1] w).drew).trans t1
  exact ⟨W1, fun _ => e1, t1', h.maps t1' (by simp) m1 (h.me.turn t1' (by simp)) (h.mb.turn t1' (by simp)) (h.ms.turn t1' (by simp))⟩

theorem tdel_ep (h : Tor w g tf pf n nx c dl nb ns fi fe ni ne) {x : Nat} (hx : x < 3) (hs : (fe x).isSome) : ∃ w', (∀ ty, (Builtin.delete_ #[72, 48] ty #[.map (some (g + 2)), epV x]).run Ybad.prog w.drew = .ok (.tuple #[]) w') ∧ Turn [g + 2] w w' ∧ Tor w' g tf pf n nx c dl nb ns fi (del1 fe x) ni (ne - 1) := by
  obtain ⟨W1, e1, t1, m1⟩ := (h.me.turn ((Turn.refl [] w).drew) (by simp)).del eps_ok Ybad.underlying72 hx 0
  rw [if_pos hs] at m1
  have t1' : Turn [g + 2] w W1 := ((Turn.refl [g + 2] w).drew).trans t1
  exact ⟨W1, fun _ => e1, t1', h.maps t1' (by simp) (h.mi.turn t1' (by simp)) m1 (h.mb.turn t1' (by simp)) (h.ms.turn t1' (by simp))⟩
end

/-- The peers' slice stored anew. -/
theorem Tor.slice {w : World} {g : Nat} {tf : Nat → Value} {pf pf' : Nat → Peer} {n n' nx c dl nb ns : Nat} {fi fe : Nat → Option Int} {ni ne : Nat} (h : Tor w g tf pf n nx c dl nb ns fi fe ni ne) (u : Value) (hs : Sl w (g + 4) 77 61 u n' (prow pf')) (ok : ∀ j, j < n' → (pf' j).id < 4 ∧ (pf' j).port < 3 ∧ (pf' j).s < 1024) (h3 : n' ≤ 3) :
    Tor (w.setCell ⟨g + 4, 0, none⟩ u) g (fun j => if j = 0 then u else tf j) pf' n' nx c dl nb ns fi fe ni ne := by
  have hT : Turn [g + 4] w (w.setCell ⟨g + 4, 0, none⟩ u) := (Turn.refl _ w).setCell (.inl (by simp)) u
  exact {
    ix := h.ix.of (fun b o hb ho _ => hT.obj ho (by simp; omega)) (h.row.set 0 u) (fun j h1 h2 => if_neg (by omega))
    ps := by
      show Sl _ _ _ _ (if 0 = 0 then u else tf 0) _ _
      rw [if_pos rfl]
      exact hs.turn hT (fun b hb hm => by have := (hs.block hb).1; simp at hm; omega)
    t8 := h.t8
    t9 := h.t9
    t12 := h.t12
    t16 := h.t16
    t10 := h.t10
    t11 := h.t11
    mi := h.mi.turn hT (by simp)
    me := h.me.turn hT (by simp)
    mb := h.mb.turn hT (by simp)
    ms := h.ms.turn hT (by simp)
    ok := ok
    z0 := h.z0.turn hT (by simp)
    lo := h.lo
    small := h3 }

theorem frC {g : Nat} {w W : World} {tf : Nat → Value} (h : Fr g TY w W) (hr : W.rowIs (g + 4) 75 17 tf) (k : Nat) (u : Value) : Fr g TY w (W.setCell ⟨g + 4, k, none⟩ u) :=
  h.setCell (p := ⟨g + 4, k, none⟩) hr (by show g ≤ g + 4; omega) (by decide) u

theorem row_cells {w : World} {b : Nat} {p : Peer} (h : w.rowIs b 77 61 (pcell p)) : ∀ k, k < 61 → w.cell? ⟨b, 0 + k, none⟩ = some (pcell p k) := fun k hk => by
  rw [Nat.zero_add]; exact h.cell hk

set_option maxHeartbeats 1000000 in
set_option maxRecDepth 100000 in
theorem trem_any (g i l c c' dl nb nb' ns : Nat) (tf : Nat → Value) (pf : Nat → Peer) (fi fe : Nat → Option Int) (ni ne : Nat) (w : World) (h : Tor w g tf pf (l + 1) (l + 1) c dl nb (ns + 1) fi fe ni ne) (hi : i < l + 1)
    (h1 : fi (pf i).id = some (i : Int) ∧ fi (pf l).id = some (l : Int) ∧ fe (pf i).port = some (i : Int) ∧ fe (pf l).port = some (l : Int)) (hd : c = c' + (if (pf i).done then 1 else 0)) (hb : nb = nb' + (if (pf i).br then 1 else 0)) (hc : c < 1024 ∧ nb < 1024 ∧ ns < 1000) :
    Calls Ybad.prog 15 #[.pointer (some ⟨g + 4, 0, none⟩), .int .i64 (i : Int)] w fun e w' => e = .returned (.tuple #[]) ∧ Fr g TY w w' ∧ ∃ tf',
      Tor w' g tf' (sw pf i l) l l c' dl nb' ns (del1 (put1 (put1 fi (pf l).id i) (pf i).id l) (pf i).id) (del1 (put1 (put1 fe (pf l).port i) (pf i).port l) (pf i).port) (ni - 1) (ne - 1) := by
  have hl3 := h.small
  have c0 : ∃ ao cap, w.cell? ⟨g + 4, 0, none⟩ = some (.slice ao (l + 1) cap) := by
    obtain ⟨pb, cap, F, S⟩ := h.ps.slot (by omega)
    exact ⟨_, cap, by rw [h.row.cell (by omega), S.val]⟩
  obtain ⟨ao, cap, c0⟩ := c0
  have X26 : Hid (Calls Ybad.prog 26 #[.pointer (some ⟨g + 4, 0, none⟩), .int .i64 (i : Int), .int .i64 (l : Int)] w fun e w' => e = .returned (.tuple #[]) ∧ ∃ pb cap F, Hid (Fr g TY w w' ∧
      Tor w' g tf (sw pf i l) (l + 1) (l + 1) c dl nb (ns + 1) (put1 (put1 fi (pf l).id i) (pf i).id l) (put1 (put1 fe (pf l).port i) (pf i).port l) ni ne ∧ Slot w' (g + 4) (tf 0) (l + 1) pb cap F (sw pf i l) ∧ w'.rangeAt pb (l * 61) (pcs (pf i))) ∧ w'.cell? ⟨g + 4, 0, none⟩ = some (.slice (some ⟨pb, 0, none⟩) (l + 1) cap) ∧ l + 1 ≤ cap) := by
    refine (tswap g i l (l + 1) c dl nb (ns + 1) tf pf fi fe ni ne w h hi (by omega) h1).mono ?_
    rintro e w' ⟨rfl, hF, hT⟩
    obtain ⟨pb, cap, F, S⟩ := hT.ps.slot (by omega)
    have hr := S.range (i := l) (by omega)
    have e0 : sw pf i l l = pf i := by unfold sw; rw [if_pos rfl]
    rw [e0] at hr
    exact ⟨rfl, pb, cap, F, ⟨hF, hT, S, hr⟩, by rw [hT.row.cell (by omega), S.val], S.room⟩
  have XP : Hid (∃ p, p = pf i) := ⟨_, rfl⟩
  have XH : Hid ((fi (pf i).id = some (i : Int) ∧ fi (pf l).id = some (l : Int) ∧ fe (pf i).port = some (i : Int) ∧ fe (pf l).port = some (l : Int)) ∧ (c = c' + (if (pf i).done then 1 else 0)) ∧ (nb = nb' + (if (pf i).br then 1 else 0)) ∧ (c < 1024 ∧ nb < 1024 ∧ ns < 1000) ∧ (pf i).id < 4 ∧ (pf i).port < 3) := ⟨h1, hd, hb, hc, (h.ok i hi).1, (h.ok i hi).2.1⟩
  clear h h1 hd hb hc XP
  go_enter Ybad.func15, Ybad.ntmps15
  go_upto_region 3 with (first | (go_at_call 26; refine X26.out.mono ?_; rintro e w2 ⟨rfl, pb, cap2, F, H2, b0, b1⟩) | (refine wpList_load_mid rfl 77 (.tmp 21) rfl pb (l * 61) rfl (pcs (pf i)) _ H2.out.2.2.2 Ybad.underlying77 rfl (by rw [pcs_length]; exact size77) ?_) | (refine wpList_store_mid rfl 77 (.tmp 5) (.tmp 22) rfl w2.heap.size 0 (pcs (pf i)).toArray rfl rfl (by rw [psz]; exact there_new rfl) (by rw [psz]; exact size77) (pcs_one _) ?_))
  refine wp_world ?_
  intro V hV
  obtain ⟨hT3, rB, hlt⟩ := box_peer rfl hV
  obtain ⟨B, hB⟩ : ∃ B, B = w2.heap.size := ⟨_, rfl⟩
  rw [← hB] at rB hlt
  simp only [← hB]
  have T3 := H2.out.2.1.new hT3
  have hBg : g + 4 < B := by rw [hB]; exact H2.out.2.1.row.lt
  obtain ⟨W4, e4, t4, T4⟩ := tdel_id T3 XH.out.2.2.2.2.1 (by unfold put1; rw [if_pos rfl]; rfl)
  have rB4 := t4.row rB (by simp; omega)
  obtain ⟨W5, e5, t5, T5⟩ := tdel_ep T4 XH.out.2.2.2.2.2 (by unfold put1; rw [if_pos rfl]; rfl)
  have rB5 := t5.row rB4 (by simp; omega)
  have c8 := T3.row.cell (i := 8) (by omega)
  rw [T3.t8] at c8
  have c9 := T4.row.cell (i := 9) (by omega)
  rw [T4.t9] at c9
  have c16 := T5.row.cell (i := 16) (by omega)
  rw [T5.t16] at c16
  have XR : Hid (Turn [g + 1, g + 2] w2 W5 ∧ Tor W5 g tf (sw pf i l) (l + 1) (l + 1) c dl nb (ns + 1) (del1 (put1 (put1 fi (pf l).id i) (pf i).id l) (pf i).id) (del1 (put1 (put1 fe (pf l).port i) (pf i).port l) (pf i).port) (ni - 1) (ne - 1) ∧ W5.rowIs B 77 61 (pcell (pf i)) ∧ g + 4 < B ∧ w2.heap.size = B) := ⟨((hT3.mono (by simp)).trans (t4.mono (by simp))).trans (t5.mono (by simp)), T5, rB5, hBg, hB.symm⟩
  have XD : Hid ((∀ ty, (Builtin.delete_ #[71, 50] ty #[.map (some (g + 1)), idV (pf i).id]).run Ybad.prog V.drew = .ok (.tuple #[]) W4) ∧ (∀ ty, (Builtin.delete_ #[72, 48] ty #[.map (some (g + 2)), epV (pf i).port]).run Ybad.prog W4.drew = .ok (.tuple #[]) W5) ∧ (loadVar 50 ⟨B, 0, none⟩).run Ybad.prog V.drew = .ok (idV (pf i).id) V.drew ∧ (loadVar 48 ⟨B, 52, none⟩).run Ybad.prog W4.drew = .ok (epV (pf i).port) W4.drew ∧ (loadVar 48 ⟨B, 52, none⟩).run Ybad.prog W5.drew = .ok (epV (pf i).port) W5.drew) :=
    ⟨e4, e5, loadv_id (row_cells rB.drew), by have := loadv_ep (row_cells rB4.drew); rw [Nat.zero_add] at this; exact this, by have := loadv_ep (row_cells rB5.drew); rw [Nat.zero_add] at this; exact this⟩
  clear hV hT3 rB hB hlt T3 e4 t4 T4 rB4 e5 t5 T5 rB5 X26 hBg
  refine wp_region_still_tail 6 mixed (by kernel_rfl) ?_
  simp only [List.take_succ_cons, List.take_zero, List.drop_succ_cons, List.drop_zero]
  iterate 5 still_step
  refine wpStill_value 28 rfl rfl (exec_load rfl rfl XD.out.2.2.1) ?_
  go_frame
  refine wpStill_nil ?_
  refine wpList_delete_raw rfl (.tmp 26) (.tmp 28) 71 50 rfl _ _ _ rfl rfl (XD.out.1 _) ?_
  go_upto_region 4 with fail
  refine wp_region_still_tail 6 mixed (by kernel_rfl) ?_
  simp only [List.take_succ_cons, List.take_zero, List.drop_succ_cons, List.drop_zero]
  iterate 5 still_step
  refine wpStill_value 34 rfl rfl (exec_load rfl rfl XD.out.2.2.2.1) ?_
  go_frame
  refine wpStill_nil ?_
  refine wpList_delete_raw rfl (.tmp 32) (.tmp 34) 72 48 rfl _ _ _ rfl rfl (XD.out.2.1 _) ?_
  have XQ : Hid (Turn [g + 1, g + 2] w2 W5 ∧ Tor W5 g tf (sw pf i l) (l + 1) (l + 1) c dl nb (ns + 1) (del1 (put1 (put1 fi (pf l).id i) (pf i).id l) (pf i).id) (del1 (put1 (put1 fe (pf l).port i) (pf i).port l) (pf i).port) (ni - 1) (ne - 1)) := ⟨XR.out.1, XR.out.2.1⟩
  have y0 : W5.cell? ⟨B, 52, none⟩ = some (.int .u64 0) := XR.out.2.2.1.cell (by omega)
  have y1 : W5.cell? ⟨B, 53, none⟩ = some (.int .u64 0) := XR.out.2.2.1.cell (by omega)
  have y2 : W5.cell? ⟨B, 54, none⟩ = some (.pointer none) := XR.out.2.2.1.cell (by omega)
  have y3 : W5.cell? ⟨B, 55, none⟩ = some (.int .u16 ((pf i).port : Int)) := XR.out.2.2.1.cell (by omega)
  have X19 : Hid (∀ W, Turn [] W5 W → Calls Ybad.prog 19 #[.agg #[.int .u64 0, .int .u64 0, .pointer none, .int .u16 ((pf i).port : Int)]] W fun e w' => e = .returned (.agg #[.int .u64 0, .int .u64 0, .pointer none]) ∧ Hid (Turn [] W5 w') ∧ w'.cell? ⟨g + 4, 16, none⟩ = some (.map (some g))) := fun W hW =>
    (addr_any (pf i).port W).mono fun e w' ⟨h1, h2⟩ => ⟨h1, hW.trans h2, by rw [((hW.trans h2).row XQ.out.2.row (by simp)).cell (by omega), XQ.out.2.t16]⟩
  have X18 : Hid (∀ W, Turn [] W5 W → Calls Ybad.prog 18 #[.map (some g), .agg #[.int .u64 0, .int .u64 0, .pointer none], .int .i32 (-1)] W fun e w' => e = .returned (.tuple #[]) ∧ Hid (Fr g TY w w' ∧ w'.rowIs B 77 61 (pcell (pf i)) ∧
      Tor w' g tf (sw pf i l) (l + 1) (l + 1) c dl nb ns (del1 (put1 (put1 fi (pf l).id i) (pf i).id l) (pf i).id) (del1 (put1 (put1 fe (pf l).port i) (pf i).port l) (pf i).port) (ni - 1) (ne - 1))) := fun W hW => by
    have T := XQ.out.2.new hW
    refine (sadd_any g (ns + 1) ns (-1) W T.z0 T.ms ⟨.inr rfl, by omega⟩ (by have := XH.out.2.2.2.1; omega)).mono ?_
    rintro e w' ⟨rfl, t, ms⟩
    have tt : Turn [g, g + 1, g + 2] w2 w' := ((XQ.out.1.mono (by simp)).trans (hW.mono (by simp))).trans (t.mono (by simp))
    refine ⟨rfl, H2.out.1.trans (Fr.ofTurn tt (fun k hk => by simp at hk; omega) (fun k hk c t fr hc => ?_)), t.row (hW.row XR.out.2.2.1 (by simp)) (by have := XR.out.2.2.2.1; simp; omega), T.maps t (by simp) (T.mi.turn t (by simp)) (T.me.turn t (by simp)) (T.mb.turn t (by simp)) ms⟩
    simp at hk
    rcases hk with rfl | rfl | rfl
    · obtain ⟨clock, ⟨_, hm⟩ | ⟨_, born, hm⟩⟩ := H2.out.2.1.ms
      all_goals
        rw [hm] at hc
        cases hc
    · obtain ⟨_, _, hm, _⟩ := H2.out.2.1.mi
      rw [hm] at hc
      cases hc
    · obtain ⟨_, _, hm, _⟩ := H2.out.2.1.me
      rw [hm] at hc
      cases hc
  clear c8 c9 XD
  go_upto_region 5 with fail
  go_frame
  go_cut [42] from 35 (fun _ wc => Fr g TY w wc ∧ wc.rowIs B 77 61 (pcell (pf i)) ∧ Tor wc g tf (sw pf i l) (l + 1) (l + 1) c dl nb ns (del1 (put1 (put1 fi (pf l).id i) (pf i).id l) (pf i).id) (del1 (put1 (put1 fe (pf l).port i) (pf i).port l) (pf i).port) (ni - 1) (ne - 1))
  case first =>
    go_region_with (first | (go_at_call 19; refine (X19.out _ (by exact (Turn.refl [] W5).drew)).mono ?_; rintro e w6 ⟨rfl, H6, d16⟩) | (go_at_call 18; refine (X18.out _ H6.out).mono ?_; rintro e w7 ⟨rfl, H7⟩))
    all_goals (go_wp2_with fail; go_meet; case rel => exact H7.out)
  case rest =>
    have XC : Hid _ := hcut
    clear hcut X18 X19 y0 y1 y2 y3 c16 XQ
    have hsv : tf 0 = .slice (some ⟨pb, 0, none⟩) (l + 1) cap2 := H2.out.2.2.1.val
    have X20 : Hid (Calls Ybad.prog 20 #[.pointer (some ⟨g + 4, 0, none⟩), .int .i64 (l : Int), .int .i64 (-1)] wc fun e w' => e = .returned (.tuple #[]) ∧ Hid (Fr g TY w w' ∧ Tor w' g tf (sw pf i l) (l + 1) (l + 1) c dl nb' ns (del1 (put1 (put1 fi (pf l).id i) (pf i).id l) (pf i).id) (del1 (put1 (put1 fe (pf l).port i) (pf i).port l) (pf i).port) (ni - 1) (ne - 1)) ∧
        w'.cell? ⟨B, 56, none⟩ = some (.bool (pf i).done) ∧ w'.cell? ⟨g + 4, 0, none⟩ = some (.slice (some ⟨pb, 0, none⟩) (l + 1) cap2) ∧ w'.cell? ⟨g + 4, 10, none⟩ = some (.int .i64 (c : Int)) ∧ w'.frozen? ⟨g + 4, 0, none⟩ = false ∧ w'.frozen? ⟨g + 4, 10, none⟩ = false) := by
      obtain ⟨hF, rB, T⟩ := XC.out
      have e0 : sw pf i l l = pf i := by unfold sw; rw [if_pos rfl]
      refine (bridge_any g l (l + 1) (l + 1) c dl nb nb' ns tf (sw pf i l) _ _ (ni - 1) (ne - 1) (-1) wc T (by omega) (by omega) ⟨.inr rfl, fun hb => ?_, fun hb => ?_⟩ XH.out.2.2.2.1.2.1).mono ?_
      · rw [e0] at hb
        have := XH.out.2.2.1
        rw [if_pos hb] at this
        omega
      · rw [e0] at hb
        have := XH.out.2.2.1
        rw [if_neg (by simp [hb])] at this
        omega
      · rintro e w' ⟨rfl, t, T'⟩
        obtain ⟨es, clock, hm, _⟩ := T.mb
        refine ⟨rfl, ⟨hF.trans (frM t (by omega) hm), T'⟩, ?_, ?_, ?_, T'.row.frozen _, T'.row.frozen _⟩
        · exact (t.row rB (by have := XR.out.2.2.2.1; simp; omega)).cell (by omega)
        · rw [T'.row.cell (by omega), hsv]
        · rw [T'.row.cell (by omega), T'.t10]
    have hc := XH.out.2.1
    have hc2 := XH.out.2.2.2.1.1
    have X27 : Hid (∀ W V' u, W = V'.setCell ⟨g + 4, 0, none⟩ (.slice (some ⟨pb, 0, none⟩) l cap2) → Fr g TY w V' → (∃ tf0, tf0 0 = tf 0 ∧ Tor V' g tf0 (sw pf i l) (l + 1) (l + 1) c' dl nb' ns (del1 (put1 (put1 fi (pf l).id i) (pf i).id l) (pf i).id) (del1 (put1 (put1 fe (pf l).port i) (pf i).port l) (pf i).port) (ni - 1) (ne - 1)) → u = (l : Int) → Calls Ybad.prog 27 #[.pointer (some ⟨g + 4, 1, none⟩), .int .i64 u] W fun e w' => e = .returned (.tuple #[]) ∧ Hid (Fr g TY w w' ∧ ∃ tf', Tor w' g tf' (sw pf i l) l l c' dl nb' ns (del1 (put1 (put1 fi (pf l).id i) (pf i).id l) (pf i).id) (del1 (put1 (put1 fe (pf l).port i) (pf i).port l) (pf i).port) (ni - 1) (ne - 1))) := by
      rintro W V' u rfl hF ⟨tf0, h0, T⟩ rfl
      have hs := T.ps
      rw [h0, hsv] at hs
      have T2 := T.slice (.slice (some ⟨pb, 0, none⟩) l cap2) (hs.take (by omega)) (fun j hj => T.ok j (by omega)) (by omega)
      refine (xremove_any (g + 4) l _ _ T2.ix).mono ?_
      rintro e w' ⟨rfl, hF', tf', ht, hx⟩
      exact ⟨rfl, (frC hF T.row 0 _).trans (frY hF'), tf', T2.index hF' hx ht⟩
    cases hdn : (pf i).done with
    | false =>
      rw [hdn] at X20
      rw [hdn, if_neg (by simp), Nat.add_zero] at hc
      subst hc
      go_wp2_with (first | (go_at_call 20; refine X20.out.mono ?_; rintro e w8 ⟨rfl, H8, d1, d2, d3, d4, d5⟩) | (go_at_call 27; refine (X27.out _ w8 _ rfl H8.out.1 ⟨tf, rfl, H8.out.2⟩ rfl).mono ?_; rintro e w9 ⟨rfl, H9⟩))
      go_end0
      exact ⟨rfl, H9.out⟩
    | true =>
      rw [hdn] at X20
      rw [hdn, if_pos rfl] at hc
      subst hc
      go_wp2_with (first | (go_at_call 20; refine X20.out.mono ?_; rintro e w8 ⟨rfl, H8, d1, d2, d3, d4, d5⟩) | (go_at_call 27; refine (X27.out _ (w8.setCell ⟨g + 4, 10, none⟩ (.int .i64 (c' : Int))) _ rfl (frC H8.out.1 H8.out.2.row _ _) ⟨_, if_neg (by omega), H8.out.2.count (c' := c') (.inl ⟨rfl, rfl, rfl⟩)⟩ rfl).mono ?_; rintro e w9 ⟨rfl, H9⟩))
      go_end0
      exact ⟨rfl, H9.out⟩
end Go.Proofs.YbulkbdskDoor
