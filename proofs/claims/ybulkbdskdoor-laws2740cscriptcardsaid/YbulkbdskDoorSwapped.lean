/-
  Two candidates exchanged: the Index anew.
-/
import Derived.Test.YbulkbdskDoorRows2
namespace Go.Proofs.YbulkbdskDoor
open Go Go.RowKit

theorem setCells_id {b : Nat} : ∀ {cs : List Value} {o : Nat} {w : World}, w.rangeAt b o cs → w.setCells b o cs = w
  | [], _, _, _ => rfl
  | v :: r, o, w, h => by
    have h0 : w.cell? ⟨b, o, none⟩ = some v := h 0 v rfl
    rw [World.setCells, setCell_id h0]
    exact setCells_id (fun j u hj => by
      have := h (j + 1) u hj
      rw [show o + (j + 1) = o + 1 + j by omega] at this
      exact this)

/-- A membership stored over one of the same group: the place alone turns. -/
theorem setCells6 {V : World} {ib o : Nat} {g x y : Value} (h : V.rangeAt ib o [g, x, .pointer none, .int .i32 0, .pointer none, .int .i32 0]) :
    V.setCells ib o [g, y, .pointer none, .int .i32 0, .pointer none, .int .i32 0] = V.setCell ⟨ib, o + 1, none⟩ y := by
  have h0 : V.cell? ⟨ib, o, none⟩ = some g := h 0 g rfl
  rw [World.setCells, setCell_id h0, World.setCells]
  refine setCells_id (fun j u hj => ?_)
  have := h (j + 2) u hj
  rw [World.cell?_setCell_other _ _ _ _ (by intro e; injection e with _ e _; omega)]
  rw [show o + (j + 2) = o + 1 + 1 + j by omega] at this
  exact this

/-- Two candidates exchanged. -/
theorem Ix.swapped {W W' : World} {tb i j p q n mb ib icap db dcap : Nat} {tf F mf G : Nat → Value} {ids : Nat → Nat} {pos : Nat → Option Nat} {c : Int} (h : Ix W tb tf n n ids pos mb) (hi : pos i = some p) (hj : pos j = some q) (hij : i ≠ j)
    (hiv : tf 4 = .slice (some ⟨ib, 0, none⟩) n icap) (hitb : tb < ib) (hicap : n ≤ icap) (himax : icap ≤ maxLen) (hI : ∀ k r, pos k = some r → InAt F mb k r) (hiR : W.rowIs ib 112 (icap * 6) F)
    (hM : W.rowIs mb 132 5 mf) (hm3 : mf 3 = .int .i32 c) (hm4 : mf 4 = .int .i32 0) (hm0 : mf 0 = .slice (some ⟨db, 0, none⟩) n dcap) (hdtb : tb < db) (hdcap : n ≤ dcap) (hdmax : dcap ≤ maxLen) (hdR : W.rowIs db 21 dcap G) (hG : ∀ k, k < n → G k = .int .i32 (ids k : Int))
    (hT : Turn [ib, db] W W') (rI : W'.rowIs ib 112 (icap * 6) (fun k => if k = j * 6 + 1 then .int .i32 (p : Int) else if k = i * 6 + 1 then .int .i32 (q : Int) else F k))
    (rD : W'.rowIs db 21 dcap (fun k => if k = p then .int .i32 (j : Int) else if k = q then .int .i32 (i : Int) else G k)) :
    Ix W' tb tf n n (fun k => if k = p then j else if k = q then i else ids k) (fun k => if k = i then some q else if k = j then some p else pos k) mb := by
  obtain ⟨hp1, hp2⟩ := h.posl i p hi
  obtain ⟨hq1, hq2⟩ := h.posl j q hj
  have hpq : p ≠ q := fun e => hij (by rw [← hp2, ← hq2, e])
  have hty : ∀ k ∈ [ib, db], ∀ c t fr, W.heap[k]? = some (.cells c t fr) → t = 112 ∨ t = 21 := fun k hk c t fr hc => by
    simp at hk
    rcases hk with rfl | rfl
    · exact .inl (cells_of_row hiR hc)
    · exact .inr (cells_of_row hdR hc)
  have hsl : ∀ {e sz v m f}, Sl W tb e sz v m f → e ≠ 112 → e ≠ 21 → Sl W' tb e sz v m f := fun hs h1 h2 => hs.of (fun b o _ ho ⟨c, e'⟩ => hT.obj ho (fun hm => by
    subst e'
    rcases hty b hm c _ _ ho with e | e
    · exact h1 e
    · exact h2 e))
  have hin : i < n := by have := (h.idl p hp1).1; rw [hp2] at this; exact this
  have hjn : j < n := by have := (h.idl q hq1).1; rw [hq2] at this; exact this
  refine ⟨hT.row h.row (fun hm => ?_), h.small, h.le, fun k hk => ?_, fun k r hr => ?_, h.byKey, hsl h.places (by decide) (by decide), ?_, ?_, ⟨_, .inr ⟨ib, icap, _, hiv, hitb, hicap, himax, rI, fun _ _ => rfl⟩, fun k r hr => ?_⟩, ⟨fun e => by omega, fun _ => ?_⟩⟩
  · obtain ⟨c0, h0, _⟩ := h.row
    rcases hty tb hm c0 75 (0, 0) h0 with h | h <;> cases h
  · by_cases e1 : k = p
    · subst e1
      simp [hjn, Ne.symm hij]
    · by_cases e2 : k = q
      · subst e2
        simp [e1, hin]
      · obtain ⟨q1, q2⟩ := h.idl k hk
        simp only [if_neg e1, if_neg e2]
        refine ⟨q1, ?_⟩
        rw [if_neg, if_neg]
        · exact q2
        · intro e; rw [e, hj] at q2; exact e2 (Option.some.inj q2).symm
        · intro e; rw [e, hi] at q2; exact e1 (Option.some.inj q2).symm
  · by_cases e1 : k = i
    · rw [if_pos e1] at hr
      cases hr
      exact ⟨hq1, by rw [if_neg (Ne.symm hpq), if_pos rfl]; exact e1.symm⟩
    · rw [if_neg e1] at hr
      by_cases e2 : k = j
      · rw [if_pos e2] at hr
        cases hr
        exact ⟨hp1, by rw [if_pos rfl]; exact e2.symm⟩
      · rw [if_neg e2] at hr
        obtain ⟨q1, q2⟩ := h.posl k r hr
        refine ⟨q1, ?_⟩
        rw [if_neg, if_neg]
        · exact q2
        · intro e; rw [e, hq2] at q2; exact e2 q2.symm
        · intro e; rw [e, hp2] at q2; exact e1 q2.symm
  · obtain ⟨f, hf⟩ := h.keys
    exact ⟨f, hsl hf (by decide) (by decide)⟩
  · obtain ⟨f, hf⟩ := h.complete
    exact ⟨f, hsl hf (by decide) (by decide)⟩
  · have fin : ∀ (s : Nat), pos k = some s → ((k = i ∧ r = q) ∨ (k = j ∧ r = p) ∨ (k ≠ i ∧ k ≠ j ∧ r = s)) → InAt (fun k => if k = j * 6 + 1 then .int .i32 (p : Int) else if k = i * 6 + 1 then .int .i32 (q : Int) else F k) mb k r := fun s hs hc => by
      obtain ⟨f0, f1, f2, f3, f4, f5⟩ := hI k s hs
      unfold InAt
      dsimp only
      refine ⟨?_, ?_, ?_, ?_, ?_, ?_⟩
      · rw [if_neg (by omega), if_neg (by omega)]; exact f0
      · rcases hc with ⟨rfl, rfl⟩ | ⟨rfl, rfl⟩ | ⟨h1, h2, rfl⟩
        · rw [if_neg (by omega), if_pos rfl]
        · rw [if_pos rfl]
        · rw [if_neg (by omega), if_neg (by omega)]; exact f1
      · rw [if_neg (by omega), if_neg (by omega)]; exact f2
      · rw [if_neg (by omega), if_neg (by omega)]; exact f3
      · rw [if_neg (by omega), if_neg (by omega)]; exact f4
      · rw [if_neg (by omega), if_neg (by omega)]; exact f5
    by_cases e1 : k = i
    · rw [if_pos e1] at hr
      cases hr
      exact fin p (by rw [e1]; exact hi) (.inl ⟨e1, rfl⟩)
    · rw [if_neg e1] at hr
      by_cases e2 : k = j
      · rw [if_pos e2] at hr
        cases hr
        exact fin q (by rw [e2]; exact hj) (.inr (.inl ⟨e2, rfl⟩))
      · rw [if_neg e2] at hr
        exact fin r hr (.inr (.inr ⟨e1, e2, rfl⟩))
  · obtain ⟨gb, clock, born, mf', c', q1, q2, q3, q4, q5, _⟩ := h.grp.on (by omega)
    refine ⟨gb, clock, born, mf, c, q1, q2, hT.obj q3 ?_, hsl q4 (by decide) (by decide), q5, hT.row hM (fun hm => ?_), hm3, hm4, .inr ⟨db, dcap, _, hm0, hdtb, hdcap, hdmax, by rw [Nat.mul_one]; exact rD, fun k hk => ?_⟩⟩
    · obtain ⟨_, h1, _⟩ := hiR
      obtain ⟨_, h2, _⟩ := hdR
      simp
      exact ⟨ne_of_obj q3 h1 (by simp), ne_of_obj q3 h2 (by simp)⟩
    · obtain ⟨c0, h0, _⟩ := hM
      rcases hty mb hm c0 132 (0, 0) h0 with h | h <;> cases h
    · rw [Nat.mul_one] at hk
      by_cases e1 : k = p
      · simp [e1]
      · by_cases e2 : k = q
        · simp [e2, Ne.symm hpq]
        · simp [e1, e2, hG k hk]

end Go.Proofs.YbulkbdskDoor
