import Derived.Test.YbulkbdtmDoorPlace
/-! What memory holds while the law UsedPlace runs. -/
namespace Go.Proofs.YbulkbdtmDoor
open Go.RowKit

def intF (K : Nat → Int) : Nat → Value := fun x => .int .i64 (K x)
/-- [8][8]int, by group and slot. -/
def sqF (E : Nat → Nat → Int) : Nat → Value := fun x => .int .i64 (E (x / 8) (x % 8))

theorem row_of_array (W : World) (A : Array Value) (t : TypeId) (f : Nat → Value) (hs : A.size = 8) (hA : ∀ i, i < 8 → A[i]? = some (f i)) : (W.alloc (.cells A t)).rowIs W.heap.size t 8 f := by
  have h := World.rowIs_alloc W A t f (fun i hi => hA i (by omega))
  rwa [hs] at h

/-- The law's arguments, boxed: the words ct, the positions ps, the keys K, the values V; the library's table; nothing old turned. -/
structure Args (N : Nat) (ct ps : Nat → Nat) (K V : Nat → Int) (w wr : World) : Prop where
  ctl : wr.rowIs N 23 8 (psF ct)
  pos : wr.rowIs (N + 1) 23 8 (psF ps)
  keys : wr.rowIs (N + 2) 24 8 (intF K)
  vals : wr.rowIs (N + 3) 24 8 (intF V)
  tab : Tab wr
  below : Below N w wr

namespace Args
variable {N : Nat} {ct ps : Nat → Nat} {K V : Nat → Int} {w wr w' : World}
theorem start (A1 A2 A3 A4 : Array Value) (w : World) (s1 : A1.size = 8) (s2 : A2.size = 8) (s3 : A3.size = 8) (s4 : A4.size = 8) (h1 : ∀ i, i < 8 → A1[i]? = some (psF ct i)) (h2 : ∀ i, i < 8 → A2[i]? = some (psF ps i))
    (h3 : ∀ i, i < 8 → A3[i]? = some (intF K i)) (h4 : ∀ i, i < 8 → A4[i]? = some (intF V i)) (hT : Tab w) (h0 : 0 < w.heap.size) :
    Args w.heap.size ct ps K V w ((((w.alloc (.cells A1 23)).alloc (.cells A2 23)).alloc (.cells A3 24)).alloc (.cells A4 24)) where
  ctl := (((row_of_array w A1 23 _ s1 h1).alloc _).alloc _).alloc _
  pos := by
    have h := row_of_array (w.alloc (.cells A1 23)) A2 23 _ s2 h2
    simp only [World.size_alloc] at h
    exact (h.alloc _).alloc _
  keys := by
    have h := row_of_array ((w.alloc (.cells A1 23)).alloc (.cells A2 23)) A3 24 _ s3 h3
    simp only [World.size_alloc] at h
    exact h.alloc _
  vals := by
    have h := row_of_array (((w.alloc (.cells A1 23)).alloc (.cells A2 23)).alloc (.cells A3 24)) A4 24 _ s4 h4
    simp only [World.size_alloc] at h
    exact h
  tab := fun j hj => by
    have hb : Below w.heap.size w ((((w.alloc (.cells A1 23)).alloc (.cells A2 23)).alloc (.cells A3 24)).alloc (.cells A4 24)) := ((((Below.refl _ w).alloc (Nat.le_refl _) _).alloc (by simp) _).alloc (by simp; omega) _).alloc (by simp; omega) _
    rw [hb.cell (p := ⟨0, j, none⟩) h0]
    exact hT j hj
  below := ((((Below.refl _ w).alloc (Nat.le_refl _) _).alloc (by simp) _).alloc (by simp; omega) _).alloc (by simp; omega) _
/-- The arguments stand while only later blocks turn. -/
theorem later (h : Args N ct ps K V w wr) (h0 : 0 < N) (hb : Below (N + 4) wr w') : Args N ct ps K V w w' where
  ctl := h.ctl.of_block (hb.block _ (by omega))
  pos := h.pos.of_block (hb.block _ (by omega))
  keys := h.keys.of_block (hb.block _ (by omega))
  vals := h.vals.of_block (hb.block _ (by omega))
  tab := fun j hj => by rw [hb.cell (p := ⟨0, j, none⟩) (by show 0 < N + 4; omega)]; exact h.tab j hj
  below := h.below.trans (hb.mono (by omega))
end Args

def cut0 (ct : Nat → Nat) (k : Nat) : Nat → Nat := fun j => if j < k then ct j else 0
theorem cut0_set {ct : Nat → Nat} {k : Nat} {wr : World} {b t n : Nat} (h : wr.rowIs b t n (psF (cut0 ct k))) : (wr.setCell ⟨b, k, none⟩ (.int .u64 (ct k))).rowIs b t n (psF (cut0 ct (k + 1))) :=
  (h.set k _).congr (fun i _ => by
    unfold psF cut0
    by_cases e : i = k
    · subst e; rw [if_pos rfl, if_pos (by omega)]
    · rw [if_neg e]
      by_cases e2 : i < k
      · rw [if_pos e2, if_pos (by omega)]
      · rw [if_neg e2, if_neg (by omega)])
theorem cut0_lt {ct : Nat → Nat} (h : ∀ j, ct j < 18446744073709551616) (k j : Nat) : cut0 ct k j < 18446744073709551616 := by
  unfold cut0; split
  · exact h j
  · omega

/-- Behind the law's own model of the first i entries. -/
structure Mod (N m : Nat) (H B W0 : Nat → Nat) (K V : Nat → Int) (i : Nat) (wr : World) : Prop where
  size : wr.heap.size = N + 7
  wds : wr.rowIs (N + 4) 23 8 (psF (uW m H B W0 i))
  ek : wr.rowIs (N + 5) 27 64 (sqF (uE m H B W0 K i))
  ev : wr.rowIs (N + 6) 27 64 (sqF (uE m H B W0 V i))
  room : ∀ x, x < i → m.testBit x = true → freeM (uW m H B W0 x (H x)) ≠ 0

theorem sq_set {E E' : Nat → Nat → Int} {wr : World} {b t j k : Nat} {v : Int} (h : wr.rowIs b t 64 (sqF E)) (hk : k < 8) (hE : ∀ x y, E' x y = if x = j ∧ y = k then v else E x y) :
    (wr.setCell ⟨b, j * 8 + k, none⟩ (.int .i64 v)).rowIs b t 64 (sqF E') :=
  (h.set _ _).congr (fun z _ => by
    simp only [sqF, hE]
    by_cases e : z = j * 8 + k
    · subst e; rw [if_pos rfl, if_pos (by omega)]
    · rw [if_neg e, if_neg (by omega)])

namespace Mod
variable {N m : Nat} {H B W0 : Nat → Nat} {K V : Nat → Int} {i : Nat} {wr : World}
theorem no (h : Mod N m H B W0 K V i wr) (hb : m.testBit i = false) : Mod N m H B W0 K V (i + 1) wr where
  size := h.size
  wds := by rw [uW_no hb]; exact h.wds
  ek := by rw [uE_no hb]; exact h.ek
  ev := by rw [uE_no hb]; exact h.ev
  room := fun x hx hx2 => by
    by_cases e : x = i
    · subst e; rw [hb] at hx2; cases hx2
    · exact h.room x (by omega) hx2
theorem drew (h : Mod N m H B W0 K V i wr) : Mod N m H B W0 K V i wr.drew := ⟨h.size, h.wds, h.ek, h.ev, h.room⟩
theorem yes (h : Mod N m H B W0 K V i wr) (hb : m.testBit i = true) (j k cw : Nat) (hj : H i = j) (hk : tz (freeM (uW m H B W0 i j)) = k) (hcw : withN (uW m H B W0 i j) k (B i) = cw) (hk8 : k < 8) (hf : freeM (uW m H B W0 i j) ≠ 0) :
    Mod N m H B W0 K V (i + 1) (((wr.setCell ⟨N + 4, j, none⟩ (.int .u64 cw)).setCell ⟨N + 5, j * 8 + k, none⟩ (.int .i64 (K i))).setCell ⟨N + 6, j * 8 + k, none⟩ (.int .i64 (V i))) := by
  have eW : ∀ x, uW m H B W0 (i + 1) x = if x = j then cw else uW m H B W0 i x := fun x => by
    rw [uW_yes hb, hj]
    by_cases e : x = j
    · subst e; rw [if_pos rfl, if_pos rfl, hk, hcw]
    · rw [if_neg e, if_neg e]
  have eK : ∀ x y, uE m H B W0 K (i + 1) x y = if x = j ∧ y = k then K i else uE m H B W0 K i x y := fun x y => by rw [uE_yes hb, hj, hk]
  have eV : ∀ x y, uE m H B W0 V (i + 1) x y = if x = j ∧ y = k then V i else uE m H B W0 V i x y := fun x y => by rw [uE_yes hb, hj, hk]
  have r1 := ((h.wds.set j (.int .u64 cw)).setOther (a := ⟨N + 5, j * 8 + k, none⟩) (by show N + 4 ≠ N + 5; omega) (.int .i64 (K i))).setOther (a := ⟨N + 6, j * 8 + k, none⟩) (by show N + 4 ≠ N + 6; omega) (.int .i64 (V i))
  have r2 := World.rowIs.setOther (sq_set (h.ek.setOther (a := ⟨N + 4, j, none⟩) (by show N + 5 ≠ N + 4; omega) (.int .u64 cw)) hk8 eK) (a := ⟨N + 6, j * 8 + k, none⟩) (by show N + 5 ≠ N + 6; omega) (.int .i64 (V i))
  have r3 := sq_set ((h.ev.setOther (a := ⟨N + 4, j, none⟩) (by show N + 6 ≠ N + 4; omega) (.int .u64 cw)).setOther (a := ⟨N + 5, j * 8 + k, none⟩) (by show N + 6 ≠ N + 5; omega) (.int .i64 (K i))) hk8 eV
  refine ⟨by simp [World.setCell, h.size], r1.congr (fun x _ => ?_), r2, r3, fun x hx hx2 => ?_⟩
  · simp only [psF, eW]
    by_cases e : x = j
    · rw [if_pos e, if_pos e]
    · rw [if_neg e, if_neg e]
  · by_cases e : x = i
    · subst e; rw [hj]; exact hf
    · exact h.room x (by omega) hx2
theorem placed {ct ps : Nat → Nat} {w : World} (a : Args N ct ps K V w wr) (h : Mod N m H B W0 K V i wr) (h0 : 0 < N) (hb : m.testBit i = true) (j k cw : Nat) (hj : H i = j) (hk : tz (freeM (uW m H B W0 i j)) = k) (hcw : withN (uW m H B W0 i j) k (B i) = cw) (hk8 : k < 8) (hf : freeM (uW m H B W0 i j) ≠ 0) :
    Args N ct ps K V w (((wr.setCell ⟨N + 4, j, none⟩ (.int .u64 cw)).setCell ⟨N + 5, j * 8 + k, none⟩ (.int .i64 (K i))).setCell ⟨N + 6, j * 8 + k, none⟩ (.int .i64 (V i))).drew.drew.drew ∧
    Mod N m H B W0 K V (i + 1) (((wr.setCell ⟨N + 4, j, none⟩ (.int .u64 cw)).setCell ⟨N + 5, j * 8 + k, none⟩ (.int .i64 (K i))).setCell ⟨N + 6, j * 8 + k, none⟩ (.int .i64 (V i))).drew.drew.drew :=
  ⟨a.later h0 ((((((Below.refl _ _).setCell (by show N + 4 ≤ N + 4; omega) _).setCell (by show N + 4 ≤ N + 5; omega) _).setCell (by show N + 4 ≤ N + 6; omega) _).drew.drew.drew)), (h.yes hb j k cw hj hk hcw hk8 hf).drew.drew.drew⟩
end Mod
end Go.Proofs.YbulkbdtmDoor
