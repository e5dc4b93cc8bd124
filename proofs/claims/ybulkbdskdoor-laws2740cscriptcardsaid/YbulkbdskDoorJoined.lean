/-
  Behind a candidate's joining: the Index anew.
-/
import Derived.Test.YbulkbdskDoorLeft
namespace Go.Proofs.YbulkbdskDoor
open Go Go.RowKit

/-- The Index behind a candidate's joining of the group at mb' (a new one where nobody was in it). -/
theorem Ix.joined {W W' : World} {tb i n m mb mb' ib icap : Nat} {tf tf' F1 : Nat → Value} {ids : Nat → Nat} {pos : Nat → Option Nat} (h : Ix W tb tf n m ids pos mb) (hp : pos i = none) (hin : i < n) (hmn : m < n)
    (hiv : tf 4 = .slice (some ⟨ib, 0, none⟩) n icap) (hitb : tb < ib) (hicap : n ≤ icap) (himax : icap ≤ maxLen) (hF : ∀ i p, pos i = some p → InAt F1 mb i p) (hmb : 0 < m → mb' = mb)
    (hk : ∀ b c t, tb < b → W.heap[b]? = some (.cells c t (0, 0)) → (t = 92 ∨ t = 36 ∨ t = 4) → W'.heap[b]? = some (.cells c t (0, 0)))
    (hr : W'.rowIs tb 75 17 tf') (ht : ∀ k, k ≠ 5 → k ≠ 6 → tf' k = tf k)
    (hi : W'.rowIs ib 112 (icap * 6) (fun k => if k = i * 6 then .pointer (some ⟨mb', 0, none⟩) else if k = i * 6 + 1 then .int .i32 (m : Int) else if k = i * 6 + 2 ∨ k = i * 6 + 4 then .pointer none else if k = i * 6 + 3 ∨ k = i * 6 + 5 then .int .i32 0 else F1 k))
    (hg : Grp W' tb (tf' 5) (tf' 6) (m + 1) (fun k => if k = m then i else ids k) mb') :
    Ix W' tb tf' n (m + 1) (fun k => if k = m then i else ids k) (fun j => if j = i then some m else pos j) mb' := by
  refine ⟨hr, h.small, hmn, fun k hk => ?_, fun j q hq => ?_, by rw [ht 7 (by omega) (by omega)]; exact h.byKey, ?_, ?_, ?_, ?_, hg⟩
  · by_cases e : k = m
    · subst e
      simp [hin]
    · have h1 := h.idl k (by omega)
      simp only [if_neg e]
      refine ⟨h1.1, ?_⟩
      rw [if_neg]
      · exact h1.2
      · intro e'
        rw [e', hp] at h1
        exact absurd h1.2 (by simp)
  · by_cases e : j = i
    · rw [if_pos e] at hq
      cases hq
      exact ⟨by omega, by rw [if_pos rfl]; exact e.symm⟩
    · rw [if_neg e] at hq
      have h1 := h.posl j q hq
      exact ⟨by omega, by rw [if_neg (by omega)]; exact h1.2⟩
  · rw [ht 1 (by omega) (by omega)]
    exact h.places.of (fun b o hb ho ⟨c, e⟩ => by subst e; exact hk b c 92 hb ho (by simp))
  · obtain ⟨f, hf⟩ := h.keys
    exact ⟨f, by rw [ht 2 (by omega) (by omega)]; exact hf.of (fun b o hb ho ⟨c, e⟩ => by subst e; exact hk b c 36 hb ho (by simp))⟩
  · obtain ⟨f, hf⟩ := h.complete
    exact ⟨f, by rw [ht 3 (by omega) (by omega)]; exact hf.of (fun b o hb ho ⟨c, e⟩ => by subst e; exact hk b c 4 hb ho (by simp))⟩
  · refine ⟨_, .inr ⟨ib, icap, _, by rw [ht 4 (by omega) (by omega)]; exact hiv, hitb, hicap, himax, hi, fun _ _ => rfl⟩, fun j q hq => ?_⟩
    by_cases e : j = i
    · rw [if_pos e] at hq
      cases hq
      subst e
      unfold InAt
      simp
    · rw [if_neg e] at hq
      obtain ⟨f0, f1, f2, f3, f4, f5⟩ := hF j q hq
      have hm := hmb (by have := h.posl j q hq; omega)
      subst hm
      unfold InAt
      dsimp only
      refine ⟨?_, ?_, ?_, ?_, ?_, ?_⟩
      · rw [if_neg (by omega), if_neg (by omega), if_neg (by omega), if_neg (by omega)]; exact f0
      · rw [if_neg (by omega), if_neg (by omega), if_neg (by omega), if_neg (by omega)]; exact f1
      · rw [if_neg (by omega), if_neg (by omega), if_neg (by omega), if_neg (by omega)]; exact f2
      · rw [if_neg (by omega), if_neg (by omega), if_neg (by omega), if_neg (by omega)]; exact f3
      · rw [if_neg (by omega), if_neg (by omega), if_neg (by omega), if_neg (by omega)]; exact f4
      · rw [if_neg (by omega), if_neg (by omega), if_neg (by omega), if_neg (by omega)]; exact f5

end Go.Proofs.YbulkbdskDoor
