import Derived.Test.YbulkbdtmDoorEq
import Derived.Test.YbulkbdtmDoorFresh
/-! What memory holds while the law EmptyPlace runs. -/
namespace Go.Proofs.YbulkbdtmDoor
open Go.RowKit

/-- The law's arguments, boxed: the positions ps, the keys K, the values V; the library's table; nothing old turned. -/
structure ArgsE (N : Nat) (ps : Nat → Nat) (K V : Nat → Int) (w wr : World) : Prop where
  pos : wr.rowIs N 23 8 (psF ps)
  keys : wr.rowIs (N + 1) 24 8 (intF K)
  vals : wr.rowIs (N + 2) 24 8 (intF V)
  tab : Tab wr
  below : Below N w wr

namespace ArgsE
variable {N : Nat} {ps : Nat → Nat} {K V : Nat → Int} {w wr w' : World}
theorem start (A2 A3 A4 : Array Value) (w : World) (s2 : A2.size = 8) (s3 : A3.size = 8) (s4 : A4.size = 8) (h2 : ∀ i, i < 8 → A2[i]? = some (psF ps i))
    (h3 : ∀ i, i < 8 → A3[i]? = some (intF K i)) (h4 : ∀ i, i < 8 → A4[i]? = some (intF V i)) (hT : Tab w) (h0 : 0 < w.heap.size) :
    ArgsE w.heap.size ps K V w (((w.alloc (.cells A2 23)).alloc (.cells A3 24)).alloc (.cells A4 24)) where
  pos := ((row_of_array w A2 23 _ s2 h2).alloc _).alloc _
  keys := by
    have h := row_of_array (w.alloc (.cells A2 23)) A3 24 _ s3 h3
    simp only [World.size_alloc] at h
    exact h.alloc _
  vals := by
    have h := row_of_array ((w.alloc (.cells A2 23)).alloc (.cells A3 24)) A4 24 _ s4 h4
    simp only [World.size_alloc] at h
    exact h
  tab := fun j hj => by
    have hb : Below w.heap.size w (((w.alloc (.cells A2 23)).alloc (.cells A3 24)).alloc (.cells A4 24)) := (((Below.refl _ w).alloc (Nat.le_refl _) _).alloc (by simp) _).alloc (by simp; omega) _
    rw [hb.cell (p := ⟨0, j, none⟩) h0]
    exact hT j hj
  below := (((Below.refl _ w).alloc (Nat.le_refl _) _).alloc (by simp) _).alloc (by simp; omega) _
theorem later (h : ArgsE N ps K V w wr) (h0 : 0 < N) (hb : Below (N + 3) wr w') : ArgsE N ps K V w w' where
  pos := h.pos.of_block (hb.block _ (by omega))
  keys := h.keys.of_block (hb.block _ (by omega))
  vals := h.vals.of_block (hb.block _ (by omega))
  tab := fun j hj => by rw [hb.cell (p := ⟨0, j, none⟩) (by show 0 < N + 3; omega)]; exact h.tab j hj
  below := h.below.trans (hb.mono (by omega))
end ArgsE

def cntF (c : Nat → Nat) : Nat → Value := fun x => .int .i64 ((c x : Nat) : Int)

/-- Behind the law's own model of the first i entries. -/
structure ModE (N m : Nat) (H B : Nat → Nat) (K V : Nat → Int) (i : Nat) (wr : World) : Prop where
  size : wr.heap.size = N + 7
  exp : wr.rowIs (N + 3) 26 8 (psF (uW m H B (fun _ => 0) i))
  ek : wr.rowIs (N + 4) 27 64 (sqF (uE m H B (fun _ => 0) K i))
  ev : wr.rowIs (N + 5) 27 64 (sqF (uE m H B (fun _ => 0) V i))
  cnt : wr.rowIs (N + 6) 24 8 (cntF (cntN m H i))

namespace ModE
variable {N m : Nat} {H B : Nat → Nat} {K V : Nat → Int} {i : Nat} {wr : World}
theorem no (h : ModE N m H B K V i wr) (hb : m.testBit i = false) : ModE N m H B K V (i + 1) wr where
  size := h.size
  exp := by rw [uW_no hb]; exact h.exp
  ek := by rw [uE_no hb]; exact h.ek
  ev := by rw [uE_no hb]; exact h.ev
  cnt := by rw [cntN_no hb]; exact h.cnt
theorem drew (h : ModE N m H B K V i wr) : ModE N m H B K V i wr.drew := ⟨h.size, h.exp, h.ek, h.ev, h.cnt⟩
theorem yes (h : ModE N m H B K V i wr) (hb : m.testBit i = true) (j k cw : Nat) (hj : H i = j) (hk : tz (freeM (uW m H B (fun _ => 0) i j)) = k) (hc : cntN m H i j = k) (hcw : withN (uW m H B (fun _ => 0) i j) k (B i) = cw) (hk8 : k < 8) :
    ModE N m H B K V (i + 1) ((((wr.setCell ⟨N + 3, j, none⟩ (.int .u64 cw)).setCell ⟨N + 4, j * 8 + k, none⟩ (.int .i64 (K i))).setCell ⟨N + 5, j * 8 + k, none⟩ (.int .i64 (V i))).setCell ⟨N + 6, j, none⟩ (.int .i64 ((k : Int) + 1))) := by
  have eW : ∀ x, uW m H B (fun _ => 0) (i + 1) x = if x = j then cw else uW m H B (fun _ => 0) i x := fun x => by
    rw [uW_yes hb, hj]
    by_cases e : x = j
    · subst e; rw [if_pos rfl, if_pos rfl, hk, hcw]
    · rw [if_neg e, if_neg e]
  have eK : ∀ x y, uE m H B (fun _ => 0) K (i + 1) x y = if x = j ∧ y = k then K i else uE m H B (fun _ => 0) K i x y := fun x y => by rw [uE_yes hb, hj, hk]
  have eV : ∀ x y, uE m H B (fun _ => 0) V (i + 1) x y = if x = j ∧ y = k then V i else uE m H B (fun _ => 0) V i x y := fun x y => by rw [uE_yes hb, hj, hk]
  have r1 := (((h.exp.set j (.int .u64 cw)).setOther (a := ⟨N + 4, j * 8 + k, none⟩) (by show N + 3 ≠ N + 4; omega) (.int .i64 (K i))).setOther (a := ⟨N + 5, j * 8 + k, none⟩) (by show N + 3 ≠ N + 5; omega) (.int .i64 (V i))).setOther (a := ⟨N + 6, j, none⟩) (by show N + 3 ≠ N + 6; omega) (.int .i64 ((k : Int) + 1))
  have r2 := (World.rowIs.setOther (sq_set (h.ek.setOther (a := ⟨N + 3, j, none⟩) (by show N + 4 ≠ N + 3; omega) (.int .u64 cw)) hk8 eK) (a := ⟨N + 5, j * 8 + k, none⟩) (by show N + 4 ≠ N + 5; omega) (.int .i64 (V i))).setOther (a := ⟨N + 6, j, none⟩) (by show N + 4 ≠ N + 6; omega) (.int .i64 ((k : Int) + 1))
  have r3 := (sq_set ((h.ev.setOther (a := ⟨N + 3, j, none⟩) (by show N + 5 ≠ N + 3; omega) (.int .u64 cw)).setOther (a := ⟨N + 4, j * 8 + k, none⟩) (by show N + 5 ≠ N + 4; omega) (.int .i64 (K i))) hk8 eV).setOther (a := ⟨N + 6, j, none⟩) (by show N + 5 ≠ N + 6; omega) (.int .i64 ((k : Int) + 1))
  have r4 := (((h.cnt.setOther (a := ⟨N + 3, j, none⟩) (by show N + 6 ≠ N + 3; omega) (.int .u64 cw)).setOther (a := ⟨N + 4, j * 8 + k, none⟩) (by show N + 6 ≠ N + 4; omega) (.int .i64 (K i))).setOther (a := ⟨N + 5, j * 8 + k, none⟩) (by show N + 6 ≠ N + 5; omega) (.int .i64 (V i))).set j (.int .i64 ((k : Int) + 1))
  refine ⟨by simp [World.setCell, h.size], r1.congr (fun x _ => ?_), r2, r3, r4.congr (fun x _ => ?_)⟩
  · simp only [psF, eW]
    by_cases e : x = j
    · rw [if_pos e, if_pos e]
    · rw [if_neg e, if_neg e]
  · simp only [cntF]
    rw [cntN_yes hb, hj]
    by_cases e : x = j
    · rw [if_pos e, if_pos e, e, hc]; rfl
    · rw [if_neg e, if_neg e]
theorem placed {ps : Nat → Nat} {w : World} (a : ArgsE N ps K V w wr) (h : ModE N m H B K V i wr) (h0 : 0 < N) (hb : m.testBit i = true) (j k cw : Nat) (hj : H i = j) (hk : tz (freeM (uW m H B (fun _ => 0) i j)) = k) (hc : cntN m H i j = k) (hcw : withN (uW m H B (fun _ => 0) i j) k (B i) = cw) (hk8 : k < 8) :
    ArgsE N ps K V w ((((wr.setCell ⟨N + 3, j, none⟩ (.int .u64 cw)).setCell ⟨N + 4, j * 8 + k, none⟩ (.int .i64 (K i))).setCell ⟨N + 5, j * 8 + k, none⟩ (.int .i64 (V i))).setCell ⟨N + 6, j, none⟩ (.int .i64 ((k : Int) + 1))).drew.drew.drew ∧
    ModE N m H B K V (i + 1) ((((wr.setCell ⟨N + 3, j, none⟩ (.int .u64 cw)).setCell ⟨N + 4, j * 8 + k, none⟩ (.int .i64 (K i))).setCell ⟨N + 5, j * 8 + k, none⟩ (.int .i64 (V i))).setCell ⟨N + 6, j, none⟩ (.int .i64 ((k : Int) + 1))).drew.drew.drew :=
  ⟨a.later h0 (((((((Below.refl _ _).setCell (by show N + 3 ≤ N + 3; omega) _).setCell (by show N + 3 ≤ N + 4; omega) _).setCell (by show N + 3 ≤ N + 5; omega) _).setCell (by show N + 3 ≤ N + 6; omega) _).drew.drew.drew)), (h.yes hb j k cw hj hk hc hcw hk8).drew.drew.drew⟩
end ModE

structure HeldE (N : Nat) (ps : Nat → Nat) (K V : Nat → Int) (w : World) (Wd : Nat → Nat) (EK EV : Nat → Nat → Int) (T C G n : Nat) (d : Int) (wr : World) : Prop where
  args : ArgsE N ps K V w wr
  exp : wr.rowIs (N + 3) 26 8 (psF Wd)
  ek : wr.rowIs (N + 4) 27 64 (sqF EK)
  ev : wr.rowIs (N + 5) 27 64 (sqF EV)
  tab : wr.rowIs T 47 12 (tblF n (.slice (some ⟨G, 0, none⟩) n n) (.slice (some ⟨C, 0, none⟩) n n) d 0)
  own : N + 7 ≤ T ∧ N + 7 ≤ C ∧ N + 7 ≤ G
  lt : T < wr.heap.size ∧ C < wr.heap.size ∧ G < wr.heap.size
  apart : T ≠ C ∧ T ≠ G ∧ C ≠ G

namespace HeldE
variable {N : Nat} {ps : Nat → Nat} {K V : Nat → Int} {w : World} {Wd : Nat → Nat} {EK EV : Nat → Nat → Int} {T C G n : Nat} {d : Int} {wr w' : World}
theorem past (h : HeldE N ps K V w Wd EK EV T C G n d wr) (h0 : 0 < N) (hp : Past C G wr w') : HeldE N ps K V w Wd EK EV T C G n d w' := by
  obtain ⟨o1, o2, o3⟩ := h.own
  obtain ⟨l1, l2, l3⟩ := h.lt
  obtain ⟨a1, a2, a3⟩ := h.apart
  have hs := hp.size
  exact { args := h.args.later h0 ⟨hp.os, hp.tape, hp.output, hp.size, fun k hk => hp.block k (by omega) (by omega) (by omega)⟩
          exp := hp.row h.exp (by omega) (by omega) (by omega)
          ek := hp.row h.ek (by omega) (by omega) (by omega)
          ev := hp.row h.ev (by omega) (by omega) (by omega)
          tab := hp.row h.tab (by omega) a1 a2
          own := h.own
          lt := ⟨by omega, by omega, by omega⟩
          apart := h.apart }
theorem cnt0 (h : HeldE N ps K V w Wd EK EV T C G n d wr) : wr.cell? ⟨T, 0, none⟩ = some (.int .i64 0) := h.tab.cell (i := 0) (by omega)
theorem grpS (h : HeldE N ps K V w Wd EK EV T C G n d wr) : wr.cell? ⟨T, 3, none⟩ = some (.slice (some ⟨G, 0, none⟩) n n) := h.tab.cell (i := 3) (by omega)
theorem ctlS (h : HeldE N ps K V w Wd EK EV T C G n d wr) : wr.cell? ⟨T, 4, none⟩ = some (.slice (some ⟨C, 0, none⟩) n n) := h.tab.cell (i := 4) (by omega)
theorem dep (h : HeldE N ps K V w Wd EK EV T C G n d wr) : wr.cell? ⟨T, 5, none⟩ = some (.int .i64 d) := h.tab.cell (i := 5) (by omega)
theorem of_new {m : Nat} {H B : Nat → Nat} {wd : World} (a : ArgsE N ps K V w wd) (h : ModE N m H B K V 8 wd) (h0 : 0 < N) (hn : NewTab n d 0 wd T C G w') :
    HeldE N ps K V w (uW m H B (fun _ => 0) 8) (uE m H B (fun _ => 0) K 8) (uE m H B (fun _ => 0) V 8) T C G n d w' := by
  have hs := h.size
  have hb := hn.below
  have e1 := hn.ownT
  have e2 := hn.ownC
  have e3 := hn.ownG
  exact { args := a.later h0 (hb.mono (by omega))
          exp := h.exp.of_block (hb.block _ (by omega))
          ek := h.ek.of_block (hb.block _ (by omega))
          ev := h.ev.of_block (hb.block _ (by omega))
          tab := hn.tab
          own := ⟨by omega, by omega, by omega⟩
          lt := ⟨rowIs_lt hn.tab, rowIs_lt hn.ctrl, rowIs_lt hn.groups⟩
          apart := hn.apart }
end HeldE

set_option maxHeartbeats 1000000 in
theorem placeInto_fresh (T C G g P n : Nat) (d : Int) (V K : Nat → Int) (ps : Nat → Nat) (m : Nat) (H B : Nat → Nat) (w : World) (hn0 : 0 < n) (hn : n ≤ 8) (hm : m < 256)
    (hE : Env T C G g P n d V K ps w) (hU : URow C G n (fun _ => 0) (fun _ _ => 0) (fun _ _ => 0) w)
    (hT : T ≠ C ∧ T ≠ G) (hg : g ≠ C ∧ g ≠ G) (hP : P ≠ C ∧ P ≠ G) (h0 : 0 ≠ C ∧ 0 ≠ G) (hCG : C ≠ G)
    (hH : ∀ i, homeOf (ps i) d n = H i) (hB : ∀ i, fpOf (ps i) = B i) :
    Calls Ybad.prog 8 #[.pointer (some ⟨T, 0, none⟩), .pointer (some ⟨g, 0, none⟩), .int .u64 (spread m), .pointer (some ⟨P, 0, none⟩), .bool true] w fun e w' => e = .returned (.tuple #[]) ∧ Only2 C G w w' ∧
      URow C G n (uW m H B (fun _ => 0) 8) (uE m H B (fun _ => 0) V 8) (uE m H B (fun _ => 0) K 8) w' := by
  have XP : Hid (Calls Ybad.prog 12 #[.pointer (some ⟨T, 0, none⟩), .pointer (some ⟨g, 0, none⟩), .int .u64 (spread m), .pointer (some ⟨P, 0, none⟩)] w fun e w' => e = .returned (.tuple #[]) ∧ Only2 C G w w' ∧
      URow C G n (uW m H B (fun _ => 0) 8) (uE m H B (fun _ => 0) V 8) (uE m H B (fun _ => 0) K 8) w') := placeFresh_any T C G g P n d V K ps m H B w hn0 hn hm hE hU hT hg hP h0 hCG hH hB
  clear hE hU hT hg hP h0 hCG hH hB
  go_enter Ybad.func8, Ybad.ntmps8
  go_wp2_with (go_at_call 12; refine XP.out.mono ?_; rintro e w' ⟨rfl, hO, hR⟩)
  have XR : Hid (Only2 C G w w' ∧ URow C G n (uW m H B (fun _ => 0) 8) (uE m H B (fun _ => 0) V 8) (uE m H B (fun _ => 0) K 8) w') := ⟨hO, hR⟩
  clear hO hR
  go_wp2
  go_end0
  exact ⟨rfl, XR.out⟩

theorem placeInto_empty (fr : Bool) (T C G g P n : Nat) (d : Int) (V K : Nat → Int) (ps : Nat → Nat) (m : Nat) (H B : Nat → Nat) (w : World) (hn0 : 0 < n) (hn : n ≤ 8) (hm : m < 256)
    (hE : Env T C G g P n d V K ps w) (hU : URow C G n (fun _ => 0) (fun _ _ => 0) (fun _ _ => 0) w)
    (hT : T ≠ C ∧ T ≠ G) (hg : g ≠ C ∧ g ≠ G) (hP : P ≠ C ∧ P ≠ G) (h0 : 0 ≠ C ∧ 0 ≠ G) (hCG : C ≠ G)
    (hH : ∀ i, homeOf (ps i) d n = H i) (hB : ∀ i, fpOf (ps i) = B i) :
    Calls Ybad.prog 8 #[.pointer (some ⟨T, 0, none⟩), .pointer (some ⟨g, 0, none⟩), .int .u64 (spread m), .pointer (some ⟨P, 0, none⟩), .bool fr] w fun e w' => e = .returned (.tuple #[]) ∧ Only2 C G w w' ∧
      URow C G n (uW m H B (fun _ => 0) 8) (uE m H B (fun _ => 0) V 8) (uE m H B (fun _ => 0) K 8) w' := by
  cases fr
  · refine placeInto_used T C G g P n d V K ps m (fun _ => 0) H B w hn0 hn hm hE hU (fun _ => by omega) hT hg hP h0 hCG hH hB (fun i hi hb => ?_)
    have h := fresh_inv (m := m) (H := H) (B := B) (fun i => by rw [← hB i]; exact fpOf_range _) i (by omega) (H i)
    exact (filled_free h.2 (by omega)).1
  · exact placeInto_fresh T C G g P n d V K ps m H B w hn0 hn hm hE hU hT hg hP h0 hCG hH hB

/-- Behind the placing. -/
structure LaidE (N : Nat) (ps : Nat → Nat) (K V : Nat → Int) (w : World) (Wd : Nat → Nat) (EK EV : Nat → Nat → Int) (T C G n g : Nat) (d : Int) (wr : World) : Prop where
  held : HeldE N ps K V w Wd EK EV T C G n d wr
  ctl : wr.rowIs C 25 n (ctlF Wd)
  grp : wr.rowIs G 35 (n * 16) (grpF EV EK)
  src : wr.rowIs g 35 16 (srcF V K)
  psc : wr.rowIs (g + 1) 23 8 (psF ps)

namespace LaidE
variable {N : Nat} {ps : Nat → Nat} {K V : Nat → Int} {w : World} {Wd : Nat → Nat} {EK EV : Nat → Nat → Int} {T C G n g : Nat} {d : Int} {wr : World}
theorem drewN (h : LaidE N ps K V w Wd EK EV T C G n g d wr) (h0 : 0 < N) (q : Nat) : LaidE N ps K V w Wd EK EV T C G n g d (wr.drewN q) :=
  ⟨h.held.past h0 ((Past.refl _ _ _).drewN q), h.ctl, h.grp, h.src, h.psc⟩
theorem cells (h : LaidE N ps K V w Wd EK EV T C G n g d wr) (i : Nat) (hi : i < 8) :
    wr.cell? ⟨N, i, none⟩ = some (.int .u64 (ps i)) ∧ wr.cell? ⟨g + 1, i, none⟩ = some (.int .u64 (ps i)) := ⟨h.held.args.pos.cell hi, h.psc.cell hi⟩
theorem srcs (h : LaidE N ps K V w Wd EK EV T C G n g d wr) (i : Nat) (hi : i < 8) :
    wr.cell? ⟨g, i, none⟩ = some (.int .i64 (V i)) ∧ wr.cell? ⟨g, 8 + i, none⟩ = some (.int .i64 (K i)) ∧ wr.cell? ⟨N + 1, i, none⟩ = some (.int .i64 (K i)) ∧ wr.cell? ⟨N + 2, i, none⟩ = some (.int .i64 (V i)) := by
  have h1 := h.src.cell (i := i) (by omega)
  have h2 := h.src.cell (i := 8 + i) (by omega)
  simp only [srcF, if_pos hi] at h1
  simp only [srcF, if_neg (show ¬ 8 + i < 8 by omega), show 8 + i - 8 = i by omega] at h2
  exact ⟨h1, h2, h.held.args.keys.cell hi, h.held.args.vals.cell hi⟩
theorem words (h : LaidE N ps K V w Wd EK EV T C G n g d wr) (j : Nat) (hj : j < n) (hn : n ≤ 8) : wr.cell? ⟨C, j, none⟩ = some (.int .u64 (Wd j)) ∧ wr.cell? ⟨N + 3, j, none⟩ = some (.int .u64 (Wd j)) :=
  ⟨h.ctl.cell hj, h.held.exp.cell (by omega)⟩
theorem keysAt (h : LaidE N ps K V w Wd EK EV T C G n g d wr) (j k : Nat) (hj : j < n) (hk : k < 8) (hn : n ≤ 8) : wr.cell? ⟨G, j * 16 + 8 + k, none⟩ = some (.int .i64 (EK j k)) ∧ wr.cell? ⟨N + 4, j * 8 + k, none⟩ = some (.int .i64 (EK j k)) := by
  have h1 := h.grp.cell (i := j * 16 + 8 + k) (by omega)
  have h2 := h.held.ek.cell (i := j * 8 + k) (by omega)
  simp only [grpF, sqF] at h1 h2
  rw [if_neg (by omega), show (j * 16 + 8 + k) / 16 = j by omega, show (j * 16 + 8 + k) % 16 - 8 = k by omega] at h1
  rw [show (j * 8 + k) / 8 = j by omega, show (j * 8 + k) % 8 = k by omega] at h2
  exact ⟨h1, h2⟩
theorem valsAt (h : LaidE N ps K V w Wd EK EV T C G n g d wr) (j k : Nat) (hj : j < n) (hk : k < 8) (hn : n ≤ 8) : wr.cell? ⟨G, j * 16 + k, none⟩ = some (.int .i64 (EV j k)) ∧ wr.cell? ⟨N + 5, j * 8 + k, none⟩ = some (.int .i64 (EV j k)) := by
  have h1 := h.grp.cell (i := j * 16 + k) (by omega)
  have h2 := h.held.ev.cell (i := j * 8 + k) (by omega)
  simp only [grpF, sqF] at h1 h2
  rw [if_pos (by omega), show (j * 16 + k) / 16 = j by omega, show (j * 16 + k) % 16 = k by omega] at h1
  rw [show (j * 8 + k) / 8 = j by omega, show (j * 8 + k) % 8 = k by omega] at h2
  exact ⟨h1, h2⟩
end LaidE

theorem place_atE {N : Nat} {ps : Nat → Nat} {K V : Nat → Int} {w : World} {Wd : Nat → Nat} {EK EV : Nat → Nat → Int} {T C G n g : Nat} {d : Int} {wc : World} {m : Nat} {H B : Nat → Nat} (fr : Bool) (A : Array Value)
    (h0 : 0 < N) (hn0 : 0 < n) (hn : n ≤ 8) (hm : m < 256) (hs : A.size = 8) (hA : ∀ i, i < 8 → A[i]? = some (psF ps i))
    (hH : ∀ i, homeOf (ps i) d n = H i) (hB : ∀ i, fpOf (ps i) = B i)
    (hU : Wd = uW m H B (fun _ => 0) 8 ∧ EK = uE m H B (fun _ => 0) K 8 ∧ EV = uE m H B (fun _ => 0) V 8)
    (hX : wc.heap.size = g + 1 ∧ HeldE N ps K V w Wd EK EV T C G n d wc ∧ wc.rowIs C 25 n (fun _ => .int .u64 0) ∧ wc.rowIs G 35 (n * 16) (fun _ => .int .i64 0) ∧ wc.rowIs g 35 16 (srcF V K)) (hgN : C < g ∧ G < g) :
    Calls Ybad.prog 8 #[.pointer (some ⟨T, 0, none⟩), .pointer (some ⟨g, 0, none⟩), .int .u64 (spread m), .pointer (some ⟨g + 1, 0, none⟩), .bool fr] (wc.alloc (.cells A 23)) fun e w' => e = .returned (.tuple #[]) ∧ LaidE N ps K V w Wd EK EV T C G n g d w' := by
  obtain ⟨hsz, hHd, hC, hG, hg⟩ := hX
  have hHd' := hHd.past h0 ((Past.refl C G wc).alloc (.cells A 23))
  have hp := row_of_array wc A 23 (psF ps) hs hA
  rw [hsz] at hp
  have hg' := hg.alloc (.cells A 23)
  obtain ⟨o1, o2, o3⟩ := hHd.own
  obtain ⟨a1, a2, a3⟩ := hHd.apart
  refine (placeInto_empty fr T C G g (g + 1) n d V K ps m H B _ hn0 hn hm ?_ ⟨(hC.alloc _).congr (fun i _ => by simp [ctlF]), (hG.alloc _).congr (fun i _ => by simp [grpF])⟩ ⟨a1, a2⟩ ⟨by omega, by omega⟩ ⟨by omega, by omega⟩ ⟨by omega, by omega⟩ a3 hH hB).mono ?_
  · exact { grpS := hHd'.grpS, ctlS := hHd'.ctlS, dep := hHd'.dep, src := fun i hi => ⟨by
              have h := hg'.cell (i := i) (by omega)
              simp only [srcF, if_pos hi] at h
              exact h, by
              have h := hg'.cell (i := 8 + i) (by omega)
              simp only [srcF, if_neg (show ¬ 8 + i < 8 by omega), show 8 + i - 8 = i by omega] at h
              exact h⟩, pos := fun i hi => hp.cell hi, tab := hHd'.args.tab }
  · rintro e w' ⟨rfl, hO, hR⟩
    refine ⟨rfl, hHd'.past h0 (Past.of_only hO), ?_, ?_, hO.row hg' (by omega) (by omega), hO.row hp (by omega) (by omega)⟩
    · rw [hU.1]; exact hR.ctl
    · rw [hU.2.1, hU.2.2]; exact hR.grp
end Go.Proofs.YbulkbdtmDoor
