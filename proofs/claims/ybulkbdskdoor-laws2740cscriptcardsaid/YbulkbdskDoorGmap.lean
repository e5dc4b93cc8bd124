/-
  The map 'groups': it holds the one key or nothing.
-/
import Derived.Test.YbulkbdskDoorIx
import Derived.Test.YbulkbdskDoorLaws
namespace Go.Proofs.YbulkbdskDoor
open Go Go.RowKit Go.ChangeMaps

theorem g_check (em : Bool) (w : World) : (Instr.checkKey em 10000 136 gkey).run Ybad.prog w = .ok () w := by kernel_rfl
theorem g_find0 (w : World) : (Instr.findKey 136 gkey []).run Ybad.prog w = .ok none w := by kernel_rfl
theorem g_find1 (v : Value) (b : Nat) (w : World) : (Instr.findKey 136 gkey [⟨gkey, v, b⟩]).run Ybad.prog w = .ok (some (0, v)) w := by kernel_rfl
theorem zero109 (w : World) : (zeroValue 109).run Ybad.prog w = .ok (.pointer none) w := by kernel_rfl

theorem g_look_nil (w : World) : (Instr.lookup 66 (.map none) gkey false).run Ybad.prog w = .ok (.pointer none) w := by
  simp [Instr.lookup, run_underlying Ybad.underlying66, g_check, g_find0, Result.andThen]
theorem g_look0 {w : World} {gb clock : Nat} (h : w.heap[gb]? = some (.map #[] clock)) : (Instr.lookup 66 (.map (some gb)) gkey false).run Ybad.prog w = .ok (.pointer none) w := by
  simp [Instr.lookup, run_underlying Ybad.underlying66, MapKept.run_getObj_map h, g_check, g_find0, Result.andThen]
theorem g_look1 {w : World} {gb clock b : Nat} {v : Value} (h : w.heap[gb]? = some (.map #[⟨gkey, v, b⟩] clock)) : (Instr.lookup 66 (.map (some gb)) gkey false).run Ybad.prog w = .ok v w := by
  simp [Instr.lookup, run_underlying Ybad.underlying66, MapKept.run_getObj_map h, g_check, g_find1, Result.andThen]
theorem g_put {w : World} {gb clock : Nat} (v : Value) (h : w.heap[gb]? = some (.map #[] clock)) : (Instr.mapUpdate 66 (.map (some gb)) gkey v).run Ybad.prog w = .ok () (setBlock w gb (.map #[⟨gkey, v, clock⟩] (clock + 1))) := by
  simp [Instr.mapUpdate, run_underlying Ybad.underlying66, MapKept.run_getObj_map h, g_check, g_find0, MapKept.run_setObj_map _ h, Result.andThen, setBlock]
theorem g_del {w : World} {gb clock b : Nat} {v : Value} {ty : TypeId} (h : w.heap[gb]? = some (.map #[⟨gkey, v, b⟩] clock)) :
    (Builtin.delete_ #[66, 136] ty #[.map (some gb), gkey]).run Ybad.prog w = .ok (.tuple #[]) (setBlock w gb (.map #[] clock)) := by
  simp [Builtin.delete_, run_underlying Ybad.underlying66, MapKept.run_getObj_map h, g_check, g_find1, MapKept.run_setObj_map _ h, Result.andThen, setBlock]

theorem turn_setBlock {ks : List Nat} {a w : World} {b : Nat} {es : Array MapEntry} {clock : Nat} (h : Turn ks a w) (hb : w.heap[b]? = some (.map es clock)) (hk : b ∈ ks ∨ a.heap.size ≤ b) (o : Obj) : Turn ks a (setBlock w b o) :=
  h.andThen (ls := [b]) ⟨rfl, rfl, rfl, by simp [setBlock], fun k _ hn => heap_setBlock_other hb _ (by simpa using hn)⟩ (fun i hi => by simp at hi; subst hi; exact hk)

/-- Two blocks that hold different objects are two. -/
theorem ne_of_obj {w : World} {a b : Nat} {o o' : Obj} (h : w.heap[a]? = some o) (h' : w.heap[b]? = some o') (hne : o ≠ o') : a ≠ b := by
  rintro rfl
  rw [h] at h'
  cases h'
  exact hne rfl

theorem Ix.left {W W' : World} {tb i p n m mb ib icap : Nat} {tf tf' F1 : Nat → Value} {ids : Nat → Nat} {pos : Nat → Option Nat} (h : Ix W tb tf n m ids pos mb) (hp : pos i = some p)
    (hiv : tf 4 = .slice (some ⟨ib, 0, none⟩) n icap) (hitb : tb < ib) (hicap : n ≤ icap) (himax : icap ≤ maxLen) (hF : ∀ i p, pos i = some p → InAt F1 mb i p)
    (hk : ∀ b c t, tb < b → W.heap[b]? = some (.cells c t (0, 0)) → (t = 92 ∨ t = 36 ∨ t = 4) → W'.heap[b]? = some (.cells c t (0, 0)))
    (hr : W'.rowIs tb 75 17 tf') (ht : ∀ k, k ≠ 6 → tf' k = tf k)
    (hi : W'.rowIs ib 112 (icap * 6) (fun k => if k = ids (m - 1) * 6 + 1 ∧ p ≠ m - 1 then .int .i32 (p : Int) else F1 k))
    (hg : Grp W' tb (tf' 5) (tf' 6) (m - 1) (fun k => if k = p then ids (m - 1) else ids k) mb) :
    Ix W' tb tf' n (m - 1) (fun k => if k = p then ids (m - 1) else ids k) (fun j => if j = i then none else if j = ids (m - 1) then some p else pos j) mb := by
  obtain ⟨hpm, hip⟩ := h.posl i p hp
  refine ⟨hr, h.small, by have := h.le; omega, fun k hk => ?_, fun j q hq => ?_, by rw [ht 7 (by omega)]; exact h.byKey, ?_, ?_, ?_, ?_, hg⟩
  · by_cases e : k = p
    · subst e
      simp only [if_pos]
      have h1 := h.idl (m - 1) (by omega)
      refine ⟨h1.1, ?_⟩
      rw [if_neg]
      intro e
      rw [e, hp] at h1
      have := Option.some.inj h1.2
      omega
    · simp only [if_neg e]
      have h1 := h.idl k (by omega)
      refine ⟨h1.1, ?_⟩
      rw [if_neg, if_neg]
      · exact h1.2
      · intro e'
        have h2 := h.idl (m - 1) (by omega)
        rw [← e', h1.2] at h2
        have := Option.some.inj h2.2
        omega
      · intro e'
        rw [e', hp] at h1
        exact e (Option.some.inj h1.2).symm
  · by_cases e : j = i
    · rw [if_pos e] at hq; cases hq
    · rw [if_neg e] at hq
      by_cases e2 : j = ids (m - 1)
      · rw [if_pos e2] at hq
        cases hq
        refine ⟨?_, by rw [if_pos rfl]; exact e2.symm⟩
        rcases Nat.lt_or_ge p (m - 1) with h1 | h1
        · exact h1
        · exact absurd (by rw [e2, ← hip]; congr 1; omega) e
      · rw [if_neg e2] at hq
        have h1 := h.posl j q hq
        have h3 : q ≠ m - 1 := fun e3 => e2 (by rw [← e3]; exact h1.2.symm)
        have h4 : q ≠ p := fun e4 => e (by rw [← h1.2, e4]; exact hip)
        exact ⟨by omega, by rw [if_neg h4]; exact h1.2⟩
  · rw [ht 1 (by omega)]
    exact h.places.of (fun b o hb ho ⟨c, e⟩ => by subst e; exact hk b c 92 hb ho (by simp))
  · obtain ⟨f, hf⟩ := h.keys
    exact ⟨f, by rw [ht 2 (by omega)]; exact hf.of (fun b o hb ho ⟨c, e⟩ => by subst e; exact hk b c 36 hb ho (by simp))⟩
  · obtain ⟨f, hf⟩ := h.complete
    exact ⟨f, by rw [ht 3 (by omega)]; exact hf.of (fun b o hb ho ⟨c, e⟩ => by subst e; exact hk b c 4 hb ho (by simp))⟩
  · refine ⟨_, .inr ⟨ib, icap, _, by rw [ht 4 (by omega)]; exact hiv, hitb, hicap, himax, hi, fun _ _ => rfl⟩, fun j q hq => ?_⟩
    by_cases e : j = i
    · rw [if_pos e] at hq; cases hq
    · rw [if_neg e] at hq
      by_cases e2 : j = ids (m - 1)
      · rw [if_pos e2] at hq
        cases hq
        have hne : p ≠ m - 1 := fun e3 => e (by rw [e2, ← hip, e3])
        have h0 := (h.idl (m - 1) (by omega)).2
        rw [← e2] at h0
        obtain ⟨f0, _, f2, f3, f4, f5⟩ := hF j (m - 1) h0
        unfold InAt
        rw [← e2]
        dsimp only
        refine ⟨?_, ?_, ?_, ?_, ?_, ?_⟩
        · rw [if_neg (by omega)]; exact f0
        · rw [if_pos ⟨rfl, hne⟩]
        · rw [if_neg (by omega)]; exact f2
        · rw [if_neg (by omega)]; exact f3
        · rw [if_neg (by omega)]; exact f4
        · rw [if_neg (by omega)]; exact f5
      · rw [if_neg e2] at hq
        obtain ⟨f0, f1, f2, f3, f4, f5⟩ := hF j q hq
        unfold InAt
        dsimp only
        refine ⟨?_, ?_, ?_, ?_, ?_, ?_⟩
        · rw [if_neg (by omega)]; exact f0
        · rw [if_neg (by omega)]; exact f1
        · rw [if_neg (by omega)]; exact f2
        · rw [if_neg (by omega)]; exact f3
        · rw [if_neg (by omega)]; exact f4
        · rw [if_neg (by omega)]; exact f5

end Go.Proofs.YbulkbdskDoor
