/-
  In the middle of a joining.
-/
import Derived.Test.YbulkbdskDoorJoined
import Derived.Test.YbulkbdskDoorLeave
namespace Go.Proofs.YbulkbdskDoor
open Go Go.RowKit

/-- In the middle of a joining: the group is there, with m in it. -/
structure Mid (w : World) (tb : Nat) (tf0 : Nat → Value) (m : Nat) (ids : Nat → Nat) (ib icap : Nat) (F : Nat → Value) (wc : World) (tf : Nat → Value) (mb gb clock born : Nat) (mf : Nat → Value) (c : Int) : Prop where
  ktf : ∀ k, k ≠ 5 → k ≠ 6 → tf k = tf0 k
  krow : wc.rowIs tb 75 17 tf
  kgb : tb < gb
  ktf5 : tf 5 = .map (some gb)
  kmap : wc.heap[gb]? = some (.map #[⟨gkey, .pointer (some ⟨mb, 0, none⟩), born⟩] clock)
  kases : Sl wc tb 109 1 (tf 6) 1 (fun _ => .pointer (some ⟨mb, 0, none⟩))
  kmb : tb < mb
  kmrow : wc.rowIs mb 132 5 mf
  km3 : mf 3 = .int .i32 c
  km4 : mf 4 = .int .i32 0
  kids : Sl wc tb 21 1 (mf 0) m (fun k => .int .i32 (ids k : Int))
  kfr : Fr tb TJ w wc
  kins : wc.rowIs ib 112 (icap * 6) F

/-- The memberships' row behind k rounds. -/
def jrow (F : Nat → Value) (i m mb k : Nat) (x : Nat) : Value :=
  if x = i * 6 ∧ 0 < k then .pointer (some ⟨mb, 0, none⟩) else if x = i * 6 + 1 ∧ 0 < k then .int .i32 (m : Int) else if x = i * 6 + 2 ∧ 1 < k then .pointer none else if x = i * 6 + 3 ∧ 1 < k then .int .i32 0
  else if x = i * 6 + 4 ∧ 2 < k then .pointer none else if x = i * 6 + 5 ∧ 2 < k then .int .i32 0 else F x

theorem Mid.put {w W W' : World} {tb m ib icap mb gb clock born : Nat} {tf0 tf F F' mf : Nat → Value} {ids : Nat → Nat} {c : Int} (M : Mid w tb tf0 m ids ib icap F W tf mb gb clock born mf c) (hT : Turn [ib] W W') (hib : tb < ib)
    (hr : W'.rowIs ib 112 (icap * 6) F') : Mid w tb tf0 m ids ib icap F' W' tf mb gb clock born mf c := by
  have hty : ∀ c t fr, W.heap[ib]? = some (.cells c t fr) → t = 112 := fun c t fr hc => cells_of_row M.kins hc
  have hsl : ∀ {e sz v n f}, Sl W tb e sz v n f → e ≠ 112 → Sl W' tb e sz v n f := fun hs he => hs.of (fun b o _ ho ⟨c, e'⟩ => hT.obj ho (fun hm => by simp at hm; subst hm; subst e'; exact he (hty _ _ _ ho)))
  refine ⟨M.ktf, hT.row M.krow ?_, M.kgb, M.ktf5, hT.obj M.kmap ?_, hsl M.kases (by decide), M.kmb, hT.row M.kmrow ?_, M.km3, M.km4, hsl M.kids (by decide), M.kfr.trans (Fr.ofTurn hT (by simp; omega) ?_), hr⟩
  · simp; exact row_ne M.krow M.kins (by decide)
  · obtain ⟨_, h1, _⟩ := M.kins
    simp; exact ne_of_obj M.kmap h1 (by simp)
  · simp; exact row_ne M.kmrow M.kins (by decide)
  · intro k hk c t fr hc
    simp at hk
    subst hk
    rw [hty _ _ _ hc]
    simp

theorem Mid.turn {w W W' : World} {tb m ib icap mb gb clock born : Nat} {tf0 tf F mf : Nat → Value} {ids : Nat → Nat} {c : Int} (M : Mid w tb tf0 m ids ib icap F W tf mb gb clock born mf c) (hT : Turn [] W W') :
    Mid w tb tf0 m ids ib icap F W' tf mb gb clock born mf c :=
  ⟨M.ktf, hT.row M.krow (by simp), M.kgb, M.ktf5, hT.obj M.kmap (by simp), M.kases.turn hT (by simp), M.kmb, hT.row M.kmrow (by simp), M.km3, M.km4, M.kids.turn hT (by simp), M.kfr.trans (Fr.ofTurn hT (by simp) (by simp)), hT.row M.kins (by simp)⟩

theorem jrow1 (F : Nat → Value) (i m mb x : Nat) : (if x = i * 6 + 2 + 1 then Value.int .i32 0 else if x = i * 6 + 2 then .pointer none else jrow F i m mb 1 x) = jrow F i m mb 2 x := by
  unfold jrow
  repeat' split
  all_goals first | rfl | (exfalso; omega)
theorem jrow2 (F : Nat → Value) (i m mb x : Nat) : (if x = i * 6 + 4 + 1 then Value.int .i32 0 else if x = i * 6 + 4 then .pointer none else jrow F i m mb 2 x) = jrow F i m mb 3 x := by
  unfold jrow
  repeat' split
  all_goals first | rfl | (exfalso; omega)
theorem jrow0 (F : Nat → Value) (i m mb x : Nat) : (if x = i * 6 + 1 then Value.int .i32 (m : Int) else if x = i * 6 then .pointer (some ⟨mb, 0, none⟩) else F x) = jrow F i m mb 1 x := by
  unfold jrow
  repeat' split
  all_goals first | rfl | (exfalso; omega)

theorem info109 : (Ybad.prog.info? 109).map (fun i => (i.zero, i.size, i.bytes)) = some (some (.pointer none), 1, 8) := by kernel_rfl
theorem info21 : (Ybad.prog.info? 21).map (fun i => (i.zero, i.size, i.bytes)) = some (some (.int .i32 0), 1, 4) := by kernel_rfl

theorem Sl.form {w : World} {tb e sz n : Nat} {v : Value} {f : Nat → Value} (h : Sl w tb e sz v n f) : ∃ ao cap, v = .slice ao n cap := by
  rcases h with ⟨rfl, rfl⟩ | ⟨g, cap, F, rfl, _⟩
  · exact ⟨none, 0, rfl⟩
  · exact ⟨_, _, rfl⟩

/-- A slice's block is one of its row's type. -/
theorem Sl.block {w : World} {tb e sz n : Nat} {v : Value} {f : Nat → Value} (h : Sl w tb e sz v n f) {b : Nat} (hb : v.ownBlock = some b) : tb < b ∧ ∃ c, w.heap[b]? = some (.cells c e (0, 0)) := by
  rcases h with ⟨rfl, _⟩ | ⟨g, cap, F, rfl, ht, _, _, ⟨c, hc, _⟩, _⟩
  · cases hb
  · cases hb; exact ⟨ht, c, hc⟩

/-- The group's list has grown by one. -/
theorem Mid.grow {w W W' w8 : World} {tb m i ib icap mb gb clock born : Nat} {tf0 tf F mf : Nat → Value} {ids : Nat → Nat} {c : Int} {v : Value} (M : Mid w tb tf0 m ids ib icap F W tf mb gb clock born mf c) (hT : Turn [] W W')
    (hg : W'.grownBy w8 (mf 0).ownBlock) (ho : w8.ownsRow (tb + 1) 21 1 v (m + 1) ((List.range (m * 1)).map (fun k => Value.int .i32 (ids k : Int)) ++ [.int .i32 (i : Int)])) :
    Mid w tb tf0 (m + 1) (fun k => if k = m then i else ids k) ib icap F (w8.setCell ⟨mb, 0, none⟩ v) tf mb gb clock born (fun k => if k = 0 then v else mf k) c := by
  have M' := M.turn hT
  have hT8 : Turn (mf 0).ownBlock.toList W' w8 := (Turn.refl _ W').grown hg (fun k e => .inl (by simp [e]))
  have hty : ∀ k ∈ (mf 0).ownBlock.toList, tb < k ∧ ∃ c, W'.heap[k]? = some (.cells c 21 (0, 0)) := fun k hk => M'.kids.block (by simpa using hk)
  have hne : ∀ {b t n f}, W'.rowIs b t n f → t ≠ 21 → b ∉ (mf 0).ownBlock.toList := fun hr ht hm => by
    obtain ⟨_, _, hc⟩ := hty _ hm
    exact ht (cells_of_row hr hc).symm
  have hsl : ∀ {e sz v n f}, Sl W' tb e sz v n f → e ≠ 21 → Sl w8 tb e sz v n f := fun hs he => hs.of (fun b o _ ho ⟨c, e'⟩ => hT8.obj ho (fun hm => by
    obtain ⟨_, _, hc⟩ := hty _ hm
    subst e'
    rw [hc] at ho
    cases ho
    exact he rfl))
  have r8 := hT8.row M'.kmrow (hne M'.kmrow (by decide))
  have s8 : Sl w8 tb 21 1 v (m + 1) (fun k => .int .i32 ((if k = m then i else ids k : Nat) : Int)) := Sl.appended ho (fun k hk => by simp only [Nat.mul_one] at hk; rw [if_neg (by omega)]) (fun k hk => by
    obtain rfl : k = 0 := by omega
    simp)
  have hbm : ∀ b t n f, w8.rowIs b t n f → t ≠ 132 → b ≠ mb := fun b t n f hr ht => row_ne hr r8 ht
  have hs9 : ∀ {e sz v n f} (u : Value), Sl w8 tb e sz v n f → e ≠ 132 → Sl (w8.setCell ⟨mb, 0, none⟩ u) tb e sz v n f := fun u hs he => hs.of (fun b o _ ho ⟨c, e'⟩ => by
    rw [Below.heap_setCell]
    · exact ho
    · intro e2
      have e2 : b = mb := e2
      subst e2
      subst e'
      exact he (cells_of_row r8 ho))
  have rt := hT8.row M'.krow (hne M'.krow (by decide))
  have ri := hT8.row M'.kins (hne M'.kins (by decide))
  have hm8 : w8.heap[gb]? = _ := hT8.obj M'.kmap (fun hm => by
    obtain ⟨_, _, hc⟩ := hty _ hm
    rw [M'.kmap] at hc; cases hc)
  refine ⟨M.ktf, rt.setOther (a := ⟨mb, 0, none⟩) (hbm _ _ _ _ rt (by decide)) _, M.kgb, M.ktf5, ?_, hs9 _ (hsl M'.kases (by decide)) (by decide), M.kmb, r8.set 0 v, M.km3, M.km4, hs9 _ s8 (by decide), ?_, ri.setOther (a := ⟨mb, 0, none⟩) (hbm _ _ _ _ ri (by decide)) _⟩
  · rw [Below.heap_setCell]
    · exact hm8
    · obtain ⟨_, h1, _⟩ := r8
      exact ne_of_obj hm8 h1 (by simp)
  · refine ((M'.kfr.trans (Fr.ofTurn hT8 (fun k hk => by have := (hty k hk).1; omega) (fun k hk c t fr hc => ?_))).setCell (p := ⟨mb, 0, none⟩) r8 (by have := M.kmb; show tb ≤ mb; omega) (by decide) _)
    obtain ⟨_, c2, h2⟩ := hty k hk
    rw [h2] at hc
    cases hc
    simp

end Go.Proofs.YbulkbdskDoor
