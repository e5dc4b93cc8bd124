/-
  (*Index).SetComplete.
-/
import Derived.Test.YbulkbdskDoorRows2
namespace Go.Proofs.YbulkbdskDoor
open Go Go.RowKit

/-- The group's count of marks anew. -/
theorem Ix.cnt {W : World} {tb n m mb : Nat} {tf mf : Nat → Value} {ids : Nat → Nat} {pos : Nat → Option Nat} (h : Ix W tb tf n m ids pos mb) (hm : 0 < m) (hM : W.rowIs mb 132 5 mf) (c' : Int) : Ix (W.setCell ⟨mb, 3, none⟩ (.int .i32 c')) tb tf n m ids pos mb := by
  have hT : Turn [mb] W (W.setCell ⟨mb, 3, none⟩ (.int .i32 c')) := (Turn.refl [mb] W).setCell (.inl (by simp)) _
  obtain ⟨f, hf⟩ := h.keys
  obtain ⟨g, hg⟩ := h.complete
  obtain ⟨F, hF, hI⟩ := h.ins
  refine ⟨h.row.setOther (a := ⟨mb, 3, none⟩) (row_ne h.row hM (by decide)) _, h.small, h.le, h.idl, h.posl, h.byKey, h.places.other hM (by decide) _ _, ⟨f, hf.other hM (by decide) _ _⟩, ⟨g, hg.other hM (by decide) _ _⟩, ⟨F, hF.other hM (by decide) _ _, hI⟩, ⟨fun e => by omega, fun _ => ?_⟩⟩
  obtain ⟨gb, clock, born, mf', c, q1, q2, q3, q4, q5, q6, q7, q8, q9⟩ := h.grp.on hm
  refine ⟨gb, clock, born, _, c', q1, q2, hT.obj q3 ?_, q4.other hM (by decide) _ _, q5, q6.set 3 _, rfl, by simpa using q8, by simpa using q9.other hM (by decide) _ _⟩
  obtain ⟨_, h1, _⟩ := hM
  simp
  exact ne_of_obj q3 h1 (by simp)

theorem Ix.markset {W : World} {tb n m mb i : Nat} {tf : Nat → Value} {ids : Nat → Nat} {pos : Nat → Option Nat} (h : Ix W tb tf n m ids pos mb) (hi : i < n) (b : Bool) :
    ∃ cb ccap x, W.cell? ⟨tb, 3, none⟩ = some (.slice (some ⟨cb, 0, none⟩) n ccap) ∧ W.cell? ⟨cb, i, none⟩ = some (.bool x) ∧ W.frozen? ⟨cb, i, none⟩ = false ∧ Ix (W.setCell ⟨cb, i, none⟩ (.bool b)) tb tf n m ids pos mb ∧ (∃ c C, W.rowIs cb 4 c C) ∧ tb < cb := by
  obtain ⟨f, hf⟩ := h.complete
  obtain ⟨cb, ccap, C, hv, htb, hcap, hmax, hR, hC⟩ := hf.pos (by omega)
  have hf' := hf
  rw [hv] at hf'
  refine ⟨cb, ccap, f i, by rw [h.row.cell (by omega), hv], by rw [hR.cell (by omega), hC i (by omega)], hR.frozen i, h.rows (fun b' o ho hx hn => ?_) (h.places.other hR (by decide) _ _) ?_ ⟨fun j => if j = i then b else f j, ?_⟩, ⟨_, _, hR⟩, htb⟩
  · rw [Below.heap_setCell]
    · exact ho
    · intro e
      have e : b' = cb := e
      subst e
      obtain ⟨c, hc, _⟩ := hR
      rw [hc] at ho
      cases ho
      exact absurd rfl (hn c).2.2
  · obtain ⟨c, hc⟩ := h.keys
    exact ⟨c, hc.other hR (by decide) _ _⟩
  · rw [hv]
    refine (hf'.set (k := i) (.bool b)).congr (fun j _ => ?_)
    by_cases e : j = i <;> simp [e]

set_option maxHeartbeats 1000000 in
set_option maxRecDepth 100000 in
theorem setComplete_any (tb i n : Nat) (b : Bool) (tf : Nat → Value) (w : World) (h : IxA w tb tf n) (hi : i < n) :
    Calls Ybad.prog 23 #[.pointer (some ⟨tb, 1, none⟩), .int .i64 (i : Int), .bool b] w fun e w' => e = .returned (.tuple #[]) ∧ Fr tb TX w w' ∧ IxA w' tb tf n := by
  obtain ⟨ids, pos, mb, hx, ha⟩ := h
  obtain ⟨p, hp⟩ := Option.ne_none_iff_exists'.1 (ha i hi)
  obtain ⟨cb, ccap, x, c3, cx, nx, hx2, ⟨cc, C, hR⟩, htb⟩ := hx.markset hi b
  obtain ⟨gb, clock, born, mf, c, q1, q2, q3, q4, q5, q6, q7, q8, q9⟩ := hx.grp.on (by omega)
  obtain ⟨F, hF, hI⟩ := hx.ins
  obtain ⟨ib, icap, F1, hiv, hitb, hicap, himax, hiR, hiF⟩ := hF.pos (by omega)
  have hn3 := hx.small
  have c4 := hx.row.cell (i := 4) (by omega)
  rw [hiv] at c4
  have d0 := hiR.cell (i := i * 6) (by omega)
  rw [hiF _ (by omega), (hI i p hp).1] at d0
  have cm := q6.cell (i := 3) (by omega)
  rw [q7] at cm
  have nm := q6.frozen 3
  have h1 : cb ≠ tb := row_ne hR hx.row (by decide)
  have h2 : cb ≠ mb := row_ne hR q6 (by decide)
  have h3 : cb ≠ ib := row_ne hR hiR (by decide)
  have XF : Hid (IxA w tb tf n ∧ (∀ c', IxA ((w.setCell ⟨cb, i, none⟩ (.bool b)).setCell ⟨mb, 3, none⟩ (.int .i32 c')) tb tf n) ∧ (∀ c', Fr tb TX w ((w.setCell ⟨cb, i, none⟩ (.bool b)).setCell ⟨mb, 3, none⟩ (.int .i32 c')))) := by
    have r6 := q6.setOther (a := ⟨cb, i, none⟩) h2.symm (.bool b)
    exact ⟨⟨ids, pos, mb, hx, ha⟩, fun c' => ⟨ids, pos, mb, hx2.cnt (by omega) r6 c', ha⟩, fun c' => ((Fr.refl tb TX w).setCell (p := ⟨cb, i, none⟩) hR (by show tb ≤ cb; omega) (by decide) _).setCell (p := ⟨mb, 3, none⟩) r6 (by show tb ≤ mb; omega) (by decide) _⟩
  clear hx hx2 hp ha hR q1 q2 q3 q4 q5 q6 q7 q8 q9 hF hI hiv hitb himax hiR hiF htb
  by_cases hxb : x = b
  · subst hxb
    go_enter Ybad.func23, Ybad.ntmps23
    go_wp2
    exact bodyPost_ret (results_none rfl _ _ _) rfl ⟨rfl, Fr.refl _ _ _, XF.out.1⟩
  · have hd : decide (x = b) = false := by simp [hxb]
    cases b
    · obtain rfl : x = true := by simpa using hxb
      go_enter Ybad.func23, Ybad.ntmps23
      go_wp2
      go_end0
      exact ⟨rfl, XF.out.2.2 _, XF.out.2.1 _⟩
    · obtain rfl : x = false := by simpa using hxb
      go_enter Ybad.func23, Ybad.ntmps23
      go_wp2
      go_end0
      exact ⟨rfl, XF.out.2.2 _, XF.out.2.1 _⟩

end Go.Proofs.YbulkbdskDoor
