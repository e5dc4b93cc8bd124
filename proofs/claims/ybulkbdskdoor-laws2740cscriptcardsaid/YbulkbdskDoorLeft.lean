/-
  Behind a candidate's leaving: the Index anew.
-/
import Derived.Test.YbulkbdskDoorGmap
namespace Go.Proofs.YbulkbdskDoor
open Go Go.RowKit

theorem leaves_mark {F : Fence} {k : Nat} {P : Program} {fn : Func} {tmps : Array Value} {R : Ending → World → Prop} {w : World} {D : Nat} (hD : w.heap[D]? = some (.deferred (some []))) (hr : fn.results = #[])
    (hR : R (.returned (.tuple #[])) (w.putObj D (.deferred none))) : LeavesInM F k P fn tmps R [{ target := .collected D, args := #[] }] .returning w :=
  ⟨by simp, .inl ⟨_, _, rfl, run_takeDeferred hD, ⟨_, results_none hr _ _ _, hR⟩⟩⟩

theorem Ix.mark {w : World} {tb n m mb D : Nat} {tf : Nat → Value} {ids : Nat → Nat} {pos : Nat → Option Nat} {ds : Option (List Deferred)} (h : Ix w tb tf n m ids pos mb) (hD : w.heap[D]? = some (.deferred ds)) (o : Obj) :
    Ix (w.putObj D o) tb tf n m ids pos mb :=
  h.kept (fun b o' ho hx => by
    rw [World.putObj_heap_other (ne_of_obj ho hD (by rintro rfl; cases hx))]
    exact ho)

theorem cells_of_row {w : World} {b t n : Nat} {f : Nat → Value} (h : w.rowIs b t n f) {c : Array Value} {t' : TypeId} {fr : Nat × Nat} (hc : w.heap[b]? = some (.cells c t' fr)) : t' = t := by
  obtain ⟨c0, h0, _⟩ := h
  rw [h0] at hc
  cases hc
  rfl

/-- Behind a candidate's leaving of a group that others are in. -/
theorem leave_some {W W5 : World} {tb i p n l mb ib icap db dcap : Nat} {tf F1 mf1 G1 : Nat → Value} {ids : Nat → Nat} {pos : Nat → Option Nat} {c1 : Int} (h : Ix W tb tf n (l + 1) ids pos mb) (hp : pos i = some p) (hl : 0 < l)
    (hiv : tf 4 = .slice (some ⟨ib, 0, none⟩) n icap) (hitb : tb < ib) (hicap : n ≤ icap) (himax : icap ≤ maxLen) (hI1 : ∀ i p, pos i = some p → InAt F1 mb i p) (hiR : W.rowIs ib 112 (icap * 6) F1)
    (hmb : tb < mb) (hM : ∃ mf, W.rowIs mb 132 5 mf) (hm3 : mf1 3 = .int .i32 c1) (hm4 : mf1 4 = .int .i32 0)
    (hdtb : tb < db) (hdcap : l + 1 ≤ dcap) (hdmax : dcap ≤ maxLen) (hdR : W.rowIs db 21 dcap G1) (hG : ∀ k, k < l + 1 → G1 k = .int .i32 (ids k : Int))
    (hT : Turn [mb, db, ib] W W5) (rM : W5.rowIs mb 132 5 (fun k => if k = 0 then .slice (some ⟨db, 0, none⟩) l dcap else mf1 k)) (rD : W5.rowIs db 21 dcap (fun k => if k = p then .int .i32 (ids l : Int) else G1 k))
    (rI : W5.rowIs ib 112 (icap * 6) (fun k => if k = ids l * 6 + 1 ∧ p ≠ l then .int .i32 (p : Int) else F1 k)) :
    Fr tb TJ W W5 ∧ ∃ tf', (∀ k, k ≠ 6 → tf' k = tf k) ∧ Ix W5 tb tf' n l (fun k => if k = p then ids l else ids k) (fun j => if j = i then none else if j = ids l then some p else pos j) mb := by
  obtain ⟨mf, hM⟩ := hM
  obtain ⟨hpm, hip⟩ := h.posl i p hp
  obtain ⟨gb, clock, born, _, mc, hgb, hg5, hgm, hg6, _, _, _, _, _⟩ := h.grp.on (by omega)
  have hty : ∀ k ∈ [mb, db, ib], ∀ c t fr, W.heap[k]? = some (.cells c t fr) → t = 132 ∨ t = 21 ∨ t = 112 := fun k hk c t fr hc => by
    simp at hk
    rcases hk with rfl | rfl | rfl
    · exact .inl (cells_of_row hM hc)
    · exact .inr (.inl (cells_of_row hdR hc))
    · exact .inr (.inr (cells_of_row hiR hc))
  refine ⟨Fr.ofTurn hT (fun k hk => by simp at hk; omega) (fun k hk c t fr hc => by rcases hty k hk c t fr hc with rfl | rfl | rfl <;> simp), tf, fun _ _ => rfl, ?_⟩
  have hmap : gb ∉ [mb, db, ib] := fun hm => by
    simp at hm
    obtain ⟨c1, h1, _⟩ := hM
    obtain ⟨c2, h2, _⟩ := hdR
    obtain ⟨c3, h3, _⟩ := hiR
    rcases hm with rfl | rfl | rfl
    · rw [h1] at hgm; cases hgm
    · rw [h2] at hgm; cases hgm
    · rw [h3] at hgm; cases hgm
  refine Ix.left (m := l + 1) h hp hiv hitb hicap himax hI1 (fun b c t _ hb ht => hT.obj hb (fun hm => by
      rcases hty b hm c t (0, 0) hb with rfl | rfl | rfl <;> simp at ht)) (hT.row h.row (fun hm => ?_)) (fun _ _ => rfl) rI ⟨fun e => by omega, fun _ => ⟨gb, clock, born, _, c1, hgb, hg5, hT.obj hgm hmap, hg6.of (fun b o _ ho ⟨c, e⟩ => hT.obj ho (fun hm => by
        subst e; rcases hty b hm c _ _ ho with h | h | h <;> cases h)), hmb, rM, hm3, hm4, ?_⟩⟩
  · obtain ⟨c0, h0, _⟩ := h.row
    rcases hty tb hm c0 75 (0, 0) h0 with h | h | h <;> cases h
  · refine .inr ⟨db, dcap, _, rfl, hdtb, by show l ≤ dcap; omega, hdmax, by rw [Nat.mul_one]; exact rD, fun k hk => ?_⟩
    simp only [Nat.add_sub_cancel, Nat.mul_one] at hk ⊢
    by_cases e : k = p
    · simp [e]
    · simp only [if_neg e]; exact hG k (by omega)

/-- Behind the leaving of the group's only one. -/
theorem leave_last {W W5 : World} {tb i p n mb ib icap db dcap gb clock clock' born ab acap : Nat} {tf F1 G1 mf af af' : Nat → Value} {v : Value} {ids : Nat → Nat} {pos : Nat → Option Nat} (h : Ix W tb tf n 1 ids pos mb) (hp : pos i = some p)
    (hiv : tf 4 = .slice (some ⟨ib, 0, none⟩) n icap) (hitb : tb < ib) (hicap : n ≤ icap) (himax : icap ≤ maxLen) (hI1 : ∀ i p, pos i = some p → InAt F1 mb i p) (hiR : W.rowIs ib 112 (icap * 6) F1)
    (hmb : tb < mb) (hM : W.rowIs mb 132 5 mf) (hdtb : tb < db) (hdR : W.rowIs db 21 dcap G1) (hgb : tb < gb) (hg5 : tf 5 = .map (some gb)) (hgm : W.heap[gb]? = some (.map #[⟨gkey, v, born⟩] clock))
    (hab : tb < ab) (hamax : acap ≤ maxLen) (haR : W.rowIs ab 109 acap af)
    (hT : Turn [mb, db, tb, ab, gb] W W5) (rT : W5.rowIs tb 75 17 (fun k => if k = 6 then .slice (some ⟨ab, 0, none⟩) 0 acap else tf k)) (rA : W5.rowIs ab 109 acap af') (rG : W5.heap[gb]? = some (.map #[] clock')) :
    Fr tb TJ W W5 ∧ ∃ tf', (∀ k, k ≠ 6 → tf' k = tf k) ∧ Ix W5 tb tf' n 0 (fun k => if k = p then ids 0 else ids k) (fun j => if j = i then none else if j = ids 0 then some p else pos j) mb := by
  obtain ⟨hpm, hip⟩ := h.posl i p hp
  have hty : ∀ k ∈ [mb, db, tb, ab, gb], ∀ c t fr, W.heap[k]? = some (.cells c t fr) → t = 132 ∨ t = 21 ∨ t = 75 ∨ t = 109 := fun k hk c t fr hc => by
    simp at hk
    rcases hk with rfl | rfl | rfl | rfl | rfl
    · exact .inl (cells_of_row hM hc)
    · exact .inr (.inl (cells_of_row hdR hc))
    · exact .inr (.inr (.inl (cells_of_row h.row hc)))
    · exact .inr (.inr (.inr (cells_of_row haR hc)))
    · rw [hgm] at hc; cases hc
  refine ⟨Fr.ofTurn hT (fun k hk => by simp at hk; omega) (fun k hk c t fr hc => by rcases hty k hk c t fr hc with rfl | rfl | rfl | rfl <;> simp), fun k => if k = 6 then .slice (some ⟨ab, 0, none⟩) 0 acap else tf k, fun k hk => if_neg hk, ?_⟩
  refine Ix.left (m := 1) h hp hiv hitb hicap himax hI1 (fun b c t _ hb ht => hT.obj hb (fun hm => by
      rcases hty b hm c t (0, 0) hb with rfl | rfl | rfl | rfl <;> simp at ht)) rT (fun k hk => if_neg hk) ?_ ⟨fun _ => ⟨.inr ⟨gb, clock', hgb, by simpa using hg5, rG⟩, ?_⟩, fun e => by omega⟩
  · refine (hT.row hiR (fun hm => ?_)).congr (fun k _ => ?_)
    · obtain ⟨c0, h0, _⟩ := hiR
      rcases hty ib hm c0 112 (0, 0) h0 with h | h | h | h <;> cases h
    · rw [if_neg (by omega)]
  · exact .inr ⟨ab, acap, af', by simp, hab, Nat.zero_le _, hamax, by rw [Nat.mul_one]; exact rA, fun k hk => by simp at hk⟩

end Go.Proofs.YbulkbdskDoor
