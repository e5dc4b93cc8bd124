import Derived.Test.YbulkbdtmDoorUsedInv
/-! What memory holds from the law's table on. -/
namespace Go.Proofs.YbulkbdtmDoor
open Go.RowKit

/-- Of the blocks of before only C and G may have turned; new ones may lie behind. -/
structure Past (C G : Nat) (w w' : World) : Prop where
  os : w'.os = w.os
  tape : w'.tape = w.tape
  output : w'.output = w.output
  size : w.heap.size ≤ w'.heap.size
  block : ∀ k, k < w.heap.size → k ≠ C → k ≠ G → w'.heap[k]? = w.heap[k]?
namespace Past
variable {C G : Nat} {w w' w'' : World}
theorem refl (C G : Nat) (w : World) : Past C G w w := ⟨rfl, rfl, rfl, Nat.le_refl _, fun _ _ _ _ => rfl⟩
theorem trans (h : Past C G w w') (h' : Past C G w' w'') : Past C G w w'' :=
  ⟨h'.os.trans h.os, h'.tape.trans h.tape, h'.output.trans h.output, Nat.le_trans h.size h'.size, fun k hk hc hg => (h'.block k (Nat.lt_of_lt_of_le hk h.size) hc hg).trans (h.block k hk hc hg)⟩
theorem drew (h : Past C G w w') : Past C G w w'.drew := ⟨h.os, h.tape, h.output, h.size, h.block⟩
theorem drewN (h : Past C G w w') (n : Nat) : Past C G w (w'.drewN n) := ⟨h.os, h.tape, h.output, h.size, h.block⟩
theorem of_only (h : Only2 C G w w') : Past C G w w' := ⟨h.os, h.tape, h.output, by rw [h.size]; exact Nat.le_refl _, fun k _ hc hg => h.block k hc hg⟩
theorem of_below (h : Below w.heap.size w w') : Past C G w w' := ⟨h.os, h.tape, h.output, h.size, fun k hk _ _ => h.block k hk⟩
theorem setC (h : Past C G w w') (i : Nat) (v : Value) : Past C G w (w'.setCell ⟨C, i, none⟩ v) := h.trans (of_only ((Only2.refl C G w').setC i v))
theorem alloc (h : Past C G w w') (o : Obj) : Past C G w (w'.alloc o) := h.trans (of_below ((Below.refl _ _).alloc (Nat.le_refl _) _))
theorem setNew (h : Past C G w w') {b i : Nat} (hb : w.heap.size ≤ b) (v : Value) : Past C G w (w'.setCell ⟨b, i, none⟩ v) :=
  ⟨h.os, h.tape, h.output, by simp only [World.setCell, Array.size_modify]; exact h.size, fun k hk hc hg => by rw [Below.heap_setCell _ _ _ _ (by show k ≠ b; omega)]; exact h.block k hk hc hg⟩
theorem row (h : Past C G w w') {b t n : Nat} {f : Nat → Value} (hb : w.rowIs b t n f) (h0 : b < w.heap.size) (h1 : b ≠ C) (h2 : b ≠ G) : w'.rowIs b t n f := hb.of_block (h.block b h0 h1 h2)
end Past

theorem rowIs_lt {w : World} {b t n : Nat} {f : Nat → Value} (h : w.rowIs b t n f) : b < w.heap.size := by
  obtain ⟨c, hc, _⟩ := h
  exact (Array.getElem?_eq_some_iff.1 hc).1

structure Held (N : Nat) (ct ps : Nat → Nat) (K V : Nat → Int) (w : World) (Wd : Nat → Nat) (EK EV : Nat → Nat → Int) (T C G n : Nat) (d : Int) (wr : World) : Prop where
  args : Args N ct ps K V w wr
  wds : wr.rowIs (N + 4) 23 8 (psF Wd)
  ek : wr.rowIs (N + 5) 27 64 (sqF EK)
  ev : wr.rowIs (N + 6) 27 64 (sqF EV)
  tab : wr.rowIs T 47 12 (tblF n (.slice (some ⟨G, 0, none⟩) n n) (.slice (some ⟨C, 0, none⟩) n n) d 0)
  own : N + 7 ≤ T ∧ N + 7 ≤ C ∧ N + 7 ≤ G
  lt : T < wr.heap.size ∧ C < wr.heap.size ∧ G < wr.heap.size
  apart : T ≠ C ∧ T ≠ G ∧ C ≠ G

namespace Held
variable {N : Nat} {ct ps : Nat → Nat} {K V : Nat → Int} {w : World} {Wd : Nat → Nat} {EK EV : Nat → Nat → Int} {T C G n : Nat} {d : Int} {wr w' : World}
theorem past (h : Held N ct ps K V w Wd EK EV T C G n d wr) (h0 : 0 < N) (hp : Past C G wr w') : Held N ct ps K V w Wd EK EV T C G n d w' := by
  obtain ⟨o1, o2, o3⟩ := h.own
  obtain ⟨l1, l2, l3⟩ := h.lt
  obtain ⟨a1, a2, a3⟩ := h.apart
  have hs := hp.size
  exact { args := h.args.later h0 ⟨hp.os, hp.tape, hp.output, hp.size, fun k hk => hp.block k (by omega) (by omega) (by omega)⟩
          wds := hp.row h.wds (by omega) (by omega) (by omega)
          ek := hp.row h.ek (by omega) (by omega) (by omega)
          ev := hp.row h.ev (by omega) (by omega) (by omega)
          tab := hp.row h.tab (by omega) a1 a2
          own := h.own
          lt := ⟨by omega, by omega, by omega⟩
          apart := h.apart }
theorem grpS (h : Held N ct ps K V w Wd EK EV T C G n d wr) : wr.cell? ⟨T, 3, none⟩ = some (.slice (some ⟨G, 0, none⟩) n n) := h.tab.cell (i := 3) (by omega)
theorem ctlS (h : Held N ct ps K V w Wd EK EV T C G n d wr) : wr.cell? ⟨T, 4, none⟩ = some (.slice (some ⟨C, 0, none⟩) n n) := h.tab.cell (i := 4) (by omega)
theorem dep (h : Held N ct ps K V w Wd EK EV T C G n d wr) : wr.cell? ⟨T, 5, none⟩ = some (.int .i64 d) := h.tab.cell (i := 5) (by omega)

theorem of_new {m : Nat} {H B W0 : Nat → Nat} {wd : World} (a : Args N ct ps K V w wd) (h : Mod N m H B W0 K V 8 wd) (h0 : 0 < N) (hn : NewTab n d 0 wd T C G w') :
    Held N ct ps K V w (uW m H B W0 8) (uE m H B W0 K 8) (uE m H B W0 V 8) T C G n d w' ∧ (∀ i, i < 8 → m.testBit i = true → freeM (uW m H B W0 i (H i)) ≠ 0) := by
  have hs := h.size
  have hb := hn.below
  have e1 := hn.ownT
  have e2 := hn.ownC
  have e3 := hn.ownG
  exact ⟨{ args := a.later h0 (hb.mono (by omega))
           wds := h.wds.of_block (hb.block _ (by omega))
           ek := h.ek.of_block (hb.block _ (by omega))
           ev := h.ev.of_block (hb.block _ (by omega))
           tab := hn.tab
           own := ⟨by omega, by omega, by omega⟩
           lt := ⟨rowIs_lt hn.tab, rowIs_lt hn.ctrl, rowIs_lt hn.groups⟩
           apart := hn.apart }, h.room⟩
end Held

/-- The first i entries, the rest zero. -/
def cutI (X : Nat → Int) (i : Nat) : Nat → Int := fun x => if x < i then X x else 0
theorem src_set {V K : Nat → Int} {wr : World} {g t i : Nat} (h : wr.rowIs g t 16 (srcF (cutI V i) (cutI K i))) (hi : i < 8) :
    ((wr.setCell ⟨g, 8 + i, none⟩ (.int .i64 (K i))).setCell ⟨g, i, none⟩ (.int .i64 (V i))).rowIs g t 16 (srcF (cutI V (i + 1)) (cutI K (i + 1))) :=
  ((h.set _ _).set _ _).congr (fun x _ => by
    simp only [srcF, cutI]
    by_cases e1 : x = i
    · subst e1; rw [if_pos rfl, if_pos hi, if_pos (by omega)]
    · rw [if_neg e1]
      by_cases e2 : x = 8 + i
      · subst e2; rw [if_pos rfl, if_neg (by omega), if_pos (by omega), show 8 + i - 8 = i by omega]
      · rw [if_neg e2]
        by_cases e3 : x < 8
        · rw [if_pos e3, if_pos e3]
          by_cases e4 : x < i
          · rw [if_pos e4, if_pos (by omega)]
          · rw [if_neg e4, if_neg (by omega)]
        · rw [if_neg e3, if_neg e3]
          by_cases e4 : x - 8 < i
          · rw [if_pos e4, if_pos (by omega)]
          · rw [if_neg e4, if_neg (by omega)])
theorem zeros16_row (W : World) (V K : Nat → Int) (A : Array Value) (hA : A = Array.replicate 16 (.int .i64 0)) : (W.alloc (.cells A 35)).rowIs W.heap.size 35 16 (srcF (cutI V 0) (cutI K 0)) := by
  have h := World.rowIs_alloc W A 35 (srcF (cutI V 0) (cutI K 0)) (fun i hi => by subst hA; simp at hi; simp [hi, srcF, cutI])
  have e : A.size = 16 := by subst hA; simp
  rwa [e] at h

set_option maxHeartbeats 1000000 in
theorem placeInto_used (T C G g P n : Nat) (d : Int) (V K : Nat → Int) (ps : Nat → Nat) (m : Nat) (W0 H B : Nat → Nat) (w : World) (hn0 : 0 < n) (hn : n ≤ 8) (hm : m < 256)
    (hE : Env T C G g P n d V K ps w) (hU : URow C G n W0 (fun _ _ => 0) (fun _ _ => 0) w) (hW : ∀ j, W0 j < 18446744073709551616)
    (hT : T ≠ C ∧ T ≠ G) (hg : g ≠ C ∧ g ≠ G) (hP : P ≠ C ∧ P ≠ G) (h0 : 0 ≠ C ∧ 0 ≠ G) (hCG : C ≠ G)
    (hH : ∀ i, homeOf (ps i) d n = H i) (hB : ∀ i, fpOf (ps i) = B i)
    (hroom : ∀ i, i < 8 → m.testBit i = true → freeM (uW m H B W0 i (H i)) ≠ 0) :
    Calls Ybad.prog 8 #[.pointer (some ⟨T, 0, none⟩), .pointer (some ⟨g, 0, none⟩), .int .u64 (spread m), .pointer (some ⟨P, 0, none⟩), .bool false] w fun e w' => e = .returned (.tuple #[]) ∧ Only2 C G w w' ∧
      URow C G n (uW m H B W0 8) (uE m H B W0 V 8) (uE m H B W0 K 8) w' := by
  have XP : Hid (Calls Ybad.prog 13 #[.pointer (some ⟨T, 0, none⟩), .pointer (some ⟨g, 0, none⟩), .int .u64 (spread m), .pointer (some ⟨P, 0, none⟩)] w fun e w' => e = .returned (.tuple #[]) ∧ Only2 C G w w' ∧
      URow C G n (uW m H B W0 8) (uE m H B W0 V 8) (uE m H B W0 K 8) w') := placeGroup_any T C G g P n d V K ps m W0 H B w hn0 hn hm hE hU hW hT hg hP h0 hCG hH hB hroom
  clear hE hU hW hT hg hP h0 hCG hH hB hroom
  go_enter Ybad.func8, Ybad.ntmps8
  go_wp2_with (go_at_call 13; refine XP.out.mono ?_; rintro e w' ⟨rfl, hO, hR⟩)
  have XR : Hid (Only2 C G w w' ∧ URow C G n (uW m H B W0 8) (uE m H B W0 V 8) (uE m H B W0 K 8) w') := ⟨hO, hR⟩
  clear hO hR
  go_wp2
  go_end0
  exact ⟨rfl, XR.out⟩
/-- Behind the placing. -/
structure Laid (N : Nat) (ct ps : Nat → Nat) (K V : Nat → Int) (w : World) (Wd : Nat → Nat) (EK EV : Nat → Nat → Int) (T C G n g : Nat) (d : Int) (wr : World) : Prop where
  held : Held N ct ps K V w Wd EK EV T C G n d wr
  ctl : wr.rowIs C 25 n (ctlF Wd)
  grp : wr.rowIs G 35 (n * 16) (grpF EV EK)
  psc : wr.rowIs (g + 1) 23 8 (psF ps)

theorem Laid.cells {N : Nat} {ct ps : Nat → Nat} {K V : Nat → Int} {w : World} {Wd : Nat → Nat} {EK EV : Nat → Nat → Int} {T C G n g : Nat} {d : Int} {wr : World} (h : Laid N ct ps K V w Wd EK EV T C G n g d wr) (i : Nat) (hi : i < 8) :
    wr.cell? ⟨N + 1, i, none⟩ = some (.int .u64 (ps i)) ∧ wr.cell? ⟨g + 1, i, none⟩ = some (.int .u64 (ps i)) := ⟨h.held.args.pos.cell hi, h.psc.cell hi⟩

theorem place_at {N : Nat} {ct ps : Nat → Nat} {K V : Nat → Int} {w : World} {Wd : Nat → Nat} {EK EV : Nat → Nat → Int} {T C G n g : Nat} {d : Int} {wc : World} {m : Nat} {H B : Nat → Nat} (A : Array Value)
    (h0 : 0 < N) (hn0 : 0 < n) (hn : n ≤ 8) (hm : m < 256) (hs : A.size = 8) (hA : ∀ i, i < 8 → A[i]? = some (psF ps i)) (hct : ∀ j, ct j < 18446744073709551616)
    (hH : ∀ i, homeOf (ps i) d n = H i) (hB : ∀ i, fpOf (ps i) = B i) (hroom : ∀ i, i < 8 → m.testBit i = true → freeM (uW m H B (cut0 ct n) i (H i)) ≠ 0)
    (hU : Wd = uW m H B (cut0 ct n) 8 ∧ EK = uE m H B (cut0 ct n) K 8 ∧ EV = uE m H B (cut0 ct n) V 8)
    (hX : wc.heap.size = g + 1 ∧ Held N ct ps K V w Wd EK EV T C G n d wc ∧ wc.rowIs C 25 n (ctlF (cut0 ct n)) ∧ wc.rowIs G 35 (n * 16) (fun _ => .int .i64 0) ∧ wc.rowIs g 35 16 (srcF V K)) (hgN : C < g ∧ G < g) :
    Calls Ybad.prog 8 #[.pointer (some ⟨T, 0, none⟩), .pointer (some ⟨g, 0, none⟩), .int .u64 (spread m), .pointer (some ⟨g + 1, 0, none⟩), .bool false] (wc.alloc (.cells A 23)) fun e w' => e = .returned (.tuple #[]) ∧ Laid N ct ps K V w Wd EK EV T C G n g d w' := by
  obtain ⟨hsz, hHd, hC, hG, hg⟩ := hX
  have hHd' := hHd.past h0 ((Past.refl C G wc).alloc (.cells A 23))
  have hp := row_of_array wc A 23 (psF ps) hs hA
  rw [hsz] at hp
  have hg' := hg.alloc (.cells A 23)
  obtain ⟨o1, o2, o3⟩ := hHd.own
  obtain ⟨a1, a2, a3⟩ := hHd.apart
  refine (placeInto_used T C G g (g + 1) n d V K ps m (cut0 ct n) H B _ hn0 hn hm ?_ ⟨hC.alloc _, (hG.alloc _).congr (fun i _ => by simp [grpF])⟩ (cut0_lt hct n) ⟨a1, a2⟩ ⟨by omega, by omega⟩ ⟨by omega, by omega⟩ ⟨by omega, by omega⟩ a3 hH hB hroom).mono ?_
  · exact { grpS := hHd'.grpS, ctlS := hHd'.ctlS, dep := hHd'.dep, src := fun i hi => ⟨by
              have h := hg'.cell (i := i) (by omega)
              simp only [srcF, if_pos hi] at h
              exact h, by
              have h := hg'.cell (i := 8 + i) (by omega)
              simp only [srcF, if_neg (show ¬ 8 + i < 8 by omega), show 8 + i - 8 = i by omega] at h
              exact h⟩, pos := fun i hi => hp.cell hi, tab := hHd'.args.tab }
  · rintro e w' ⟨rfl, hO, hR⟩
    refine ⟨rfl, hHd'.past h0 (Past.of_only hO), ?_, ?_, hO.row hp (by omega) (by omega)⟩
    · rw [hU.1]; exact hR.ctl
    · rw [hU.2.1, hU.2.2]; exact hR.grp
end Go.Proofs.YbulkbdtmDoor
