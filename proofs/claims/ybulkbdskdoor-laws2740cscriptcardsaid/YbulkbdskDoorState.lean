/-
  The torrent's state: what the two maps of indices and the counts say of the peers; remove on it.
-/
import Derived.Test.YbulkbdskDoorTrem
namespace Go.Proofs.YbulkbdskDoor
open Go Go.RowKit

def upd (pf : Nat → Peer) (i : Nat) (p : Peer) : Nat → Peer := fun j => if j = i then p else pf j

def cnt (f : Peer → Bool) (pf : Nat → Peer) : Nat → Nat
  | 0 => 0
  | n + 1 => cnt f pf n + (if f (pf n) then 1 else 0)

theorem cnt_le (f : Peer → Bool) (pf : Nat → Peer) (n : Nat) : cnt f pf n ≤ n := by
  induction n with
  | zero => exact Nat.le_refl _
  | succ n ih =>
    unfold cnt
    split <;> omega

theorem cnt_congr (f : Peer → Bool) {pf pf' : Nat → Peer} {n : Nat} (h : ∀ j, j < n → f (pf j) = f (pf' j)) : cnt f pf n = cnt f pf' n := by
  induction n with
  | zero => rfl
  | succ n ih =>
    unfold cnt
    rw [ih (fun j hj => h j (by omega)), h n (by omega)]

theorem cnt_upd (f : Peer → Bool) (pf : Nat → Peer) {n i : Nat} (hi : i < n) (p : Peer) : cnt f (upd pf i p) n + (if f (pf i) then 1 else 0) = cnt f pf n + (if f p then 1 else 0) := by
  induction n with
  | zero => omega
  | succ n ih =>
    unfold cnt
    by_cases e : i = n
    · subst e
      have h1 : cnt f (upd pf i p) i = cnt f pf i := cnt_congr f (fun j hj => by unfold upd; rw [if_neg (by omega)])
      have h2 : upd pf i p i = p := by unfold upd; rw [if_pos rfl]
      rw [h1, h2]
      omega
    · have h2 : upd pf i p n = pf n := by unfold upd; rw [if_neg (by omega)]
      rw [h2]
      have := ih (by omega)
      omega

theorem cnt_push (f : Peer → Bool) (pf : Nat → Peer) (n : Nat) (p : Peer) : cnt f (upd pf n p) (n + 1) = cnt f pf n + (if f p then 1 else 0) := by
  have h1 : cnt f (upd pf n p) n = cnt f pf n := cnt_congr f (fun j hj => by unfold upd; rw [if_neg (by omega)])
  show cnt f (upd pf n p) n + _ = _
  have h2 : upd pf n p n = p := by unfold upd; rw [if_pos rfl]
  rw [h1, h2]

theorem cnt_swap (f : Peer → Bool) (pf : Nat → Peer) {i l : Nat} (hi : i < l + 1) : cnt f pf (l + 1) = cnt f (sw pf i l) l + (if f (pf i) then 1 else 0) := by
  show cnt f pf l + (if f (pf l) then 1 else 0) = _
  by_cases e : i = l
  · subst e
    rw [cnt_congr f (pf := sw pf i i) (pf' := pf) (fun j hj => by unfold sw; rw [if_neg (by omega), if_neg (by omega)])]
  · rw [cnt_congr f (pf := sw pf i l) (pf' := upd pf i (pf l)) (fun j hj => by unfold sw upd; rw [if_neg (by omega)])]
    have := cnt_upd f pf (show i < l by omega) (pf l)
    omega

/-- The map of indices by a key. -/
def Look (key : Peer → Nat) (pf : Nat → Peer) (n : Nat) (f : Nat → Option Int) : Prop :=
  (∀ j, j < n → f (key (pf j)) = some (j : Int)) ∧ ∀ x v, f x = some v → ∃ j, j < n ∧ v = (j : Int) ∧ key (pf j) = x
/-- .. but for the i-th peer. -/
def LookX (key : Peer → Nat) (pf : Nat → Peer) (n i : Nat) (f : Nat → Option Int) : Prop :=
  (∀ j, j < n → j ≠ i → f (key (pf j)) = some (j : Int)) ∧ ∀ x v, f x = some v → ∃ j, j < n ∧ j ≠ i ∧ v = (j : Int) ∧ key (pf j) = x

section
variable {key : Peer → Nat} {pf : Nat → Peer} {n i : Nat} {f : Nat → Option Int}

theorem Look.inj (h : Look key pf n f) {a b : Nat} (ha : a < n) (hb : b < n) (e : key (pf a) = key (pf b)) : a = b := by
  have h1 := h.1 a ha
  rw [e, h.1 b hb] at h1
  have := Option.some.inj h1
  omega

theorem Look.none (h : Look key pf n f) {x : Nat} (hx : ∀ j, j < n → key (pf j) ≠ x) : f x = none := by
  cases hf : f x with
  | none => rfl
  | some v =>
    obtain ⟨j, hj, _, e⟩ := h.2 x v hf
    exact absurd e (hx j hj)

theorem Look.swap {l : Nat} (h : Look key pf (l + 1) f) (hi : i < l + 1) : Look key (sw pf i l) l (del1 (put1 (put1 f (key (pf l)) i) (key (pf i)) l) (key (pf i))) := by
  refine ⟨fun j hj => ?_, fun x v hv => ?_⟩
  · unfold sw del1 put1
    rw [if_neg (by omega : ¬ j = l)]
    by_cases e : j = i
    · rw [if_pos e]
      have hne : ¬ key (pf l) = key (pf i) := fun e' => by have := h.inj (by omega) hi e'; omega
      rw [if_neg hne, if_neg hne, if_pos rfl, e]
    · rw [if_neg e]
      have h1 : ¬ key (pf j) = key (pf i) := fun e' => by have := h.inj (by omega) hi e'; omega
      have h2 : ¬ key (pf j) = key (pf l) := fun e' => by have := h.inj (by omega) (by omega) e'; omega
      rw [if_neg h1, if_neg h1, if_neg h2]
      exact h.1 j (by omega)
  · unfold del1 put1 at hv
    by_cases e : x = key (pf i)
    · rw [if_pos e] at hv; cases hv
    · rw [if_neg e, if_neg e] at hv
      by_cases e2 : x = key (pf l)
      · rw [if_pos e2] at hv
        have hil : i ≠ l := fun e' => by subst e'; exact e e2
        refine ⟨i, by omega, (Option.some.inj hv).symm, ?_⟩
        unfold sw
        rw [if_neg hil, if_pos rfl, e2]
      · rw [if_neg e2] at hv
        obtain ⟨j, hj, hjv, hk⟩ := h.2 x v hv
        have h1 : j ≠ i := fun e' => by subst e'; exact e hk.symm
        have h2 : j ≠ l := fun e' => by subst e'; exact e2 hk.symm
        refine ⟨j, by omega, hjv, ?_⟩
        unfold sw
        rw [if_neg h2, if_neg h1, hk]

theorem Look.push (h : Look key pf n f) (p : Peer) (hp : ∀ j, j < n → key (pf j) ≠ key p) : Look key (upd pf n p) (n + 1) (put1 f (key p) n) := by
  refine ⟨fun j hj => ?_, fun x v hv => ?_⟩
  · unfold upd put1
    by_cases e : j = n
    · rw [if_pos e, if_pos rfl, e]
    · rw [if_neg e, if_neg (hp j (by omega))]
      exact h.1 j (by omega)
  · unfold put1 at hv
    by_cases e : x = key p
    · rw [if_pos e] at hv
      exact ⟨n, by omega, (Option.some.inj hv).symm, by unfold upd; rw [if_pos rfl, e]⟩
    · rw [if_neg e] at hv
      obtain ⟨j, hj, hjv, hk⟩ := h.2 x v hv
      exact ⟨j, by omega, hjv, by unfold upd; rw [if_neg (by omega), hk]⟩

theorem Look.pushX (h : Look key pf n f) (p : Peer) : LookX key (upd pf n p) (n + 1) n f := by
  refine ⟨fun j hj e => ?_, fun x v hv => ?_⟩
  · unfold upd
    rw [if_neg e]
    exact h.1 j (by omega)
  · obtain ⟨j, hj, hjv, hk⟩ := h.2 x v hv
    exact ⟨j, by omega, by omega, hjv, by unfold upd; rw [if_neg (by omega), hk]⟩

theorem Look.dropX (h : Look key pf n f) (hi : i < n) : LookX key pf n i (del1 f (key (pf i))) := by
  refine ⟨fun j hj e => ?_, fun x v hv => ?_⟩
  · unfold del1
    rw [if_neg (fun e' => e (h.inj hj hi e'))]
    exact h.1 j hj
  · unfold del1 at hv
    by_cases e : x = key (pf i)
    · rw [if_pos e] at hv; cases hv
    · rw [if_neg e] at hv
      obtain ⟨j, hj, hjv, hk⟩ := h.2 x v hv
      exact ⟨j, hj, fun e' => by subst e'; exact e hk.symm, hjv, hk⟩

theorem LookX.none (h : LookX key pf n i f) {x : Nat} (hx : ∀ j, j < n → j ≠ i → key (pf j) ≠ x) : f x = none := by
  cases hf : f x with
  | none => rfl
  | some v =>
    obtain ⟨j, hj, hji, _, e⟩ := h.2 x v hf
    exact absurd e (hx j hj hji)

theorem LookX.attach (h : LookX key pf n i f) (hi : i < n) (p : Peer) (hp : ∀ j, j < n → j ≠ i → key (pf j) ≠ key p) : Look key (upd pf i p) n (put1 f (key p) i) := by
  refine ⟨fun j hj => ?_, fun x v hv => ?_⟩
  · unfold upd put1
    by_cases e : j = i
    · rw [if_pos e, if_pos rfl, e]
    · rw [if_neg e, if_neg (hp j hj e)]
      exact h.1 j hj e
  · unfold put1 at hv
    by_cases e : x = key p
    · rw [if_pos e] at hv
      exact ⟨i, hi, (Option.some.inj hv).symm, by unfold upd; rw [if_pos rfl, e]⟩
    · rw [if_neg e] at hv
      obtain ⟨j, hj, hji, hjv, hk⟩ := h.2 x v hv
      exact ⟨j, hj, hjv, by unfold upd; rw [if_neg hji, hk]⟩

theorem Look.upd (h : Look key pf n f) (p : Peer) (hp : key p = key (pf i)) : Look key (upd pf i p) n f := by
  have hk : ∀ j, key (YbulkbdskDoor.upd pf i p j) = key (pf j) := fun j => by
    unfold YbulkbdskDoor.upd
    by_cases e : j = i
    · rw [if_pos e, hp, e]
    · rw [if_neg e]
  refine ⟨fun j hj => by rw [hk]; exact h.1 j hj, fun x v hv => ?_⟩
  obtain ⟨j, hj, hjv, e⟩ := h.2 x v hv
  exact ⟨j, hj, hjv, by rw [hk, e]⟩
end

def St (w : World) (g : Nat) (v : Value) (pf : Nat → Peer) (n dl : Nat) : Prop :=
  ∃ tf fi fe, tf 0 = v ∧ Tor w g tf pf n n (cnt Peer.done pf n) dl (cnt Peer.br pf n) n fi fe n n ∧ Look Peer.id pf n fi ∧ Look Peer.port pf n fe

/-- All in order but for the i-th peer's endpoint: in no map, in no count of bridges. -/
def Det (w : World) (g : Nat) (v : Value) (pf : Nat → Peer) (m i dl : Nat) : Prop :=
  i < m + 1 ∧ ∃ tf fi fe nbd, tf 0 = v ∧ Tor w g tf pf (m + 1) (m + 1) (cnt Peer.done pf (m + 1)) dl nbd m fi fe (m + 1) m ∧ Look Peer.id pf (m + 1) fi ∧ LookX Peer.port pf (m + 1) i fe ∧ cnt Peer.br pf (m + 1) = nbd + (if (pf i).br then 1 else 0)

/-- A port that no peer has: there is room for one more. -/
theorem room {pf : Nat → Peer} {n x : Nat} {fe : Nat → Option Int} (h : Look Peer.port pf n fe) (hn : n ≤ 3) (hp : ∀ j, j < n → (pf j).port < 3) (hx : x < 3) (hne : ∀ j, j < n → (pf j).port ≠ x) : n < 3 := by
  rcases Nat.lt_or_ge n 3 with h3 | h3
  · exact h3
  · obtain rfl : n = 3 := by omega
    have d1 : (pf 0).port ≠ (pf 1).port := fun e => by have := h.inj (by omega) (by omega) e; omega
    have d2 : (pf 0).port ≠ (pf 2).port := fun e => by have := h.inj (by omega) (by omega) e; omega
    have d3 : (pf 1).port ≠ (pf 2).port := fun e => by have := h.inj (by omega) (by omega) e; omega
    have p0 := hp 0 (by omega)
    have p1 := hp 1 (by omega)
    have p2 := hp 2 (by omega)
    have n0 := hne 0 (by omega)
    have n1 := hne 1 (by omega)
    have n2 := hne 2 (by omega)
    omega

theorem trem_st (g i l dl : Nat) (v : Value) (pf : Nat → Peer) (w : World) (h : St w g v pf (l + 1) dl) (hi : i < l + 1) :
    Calls Ybad.prog 15 #[.pointer (some ⟨g + 4, 0, none⟩), .int .i64 (i : Int)] w fun e w' => e = .returned (.tuple #[]) ∧ Fr g TY w w' ∧ ∃ v', St w' g v' (sw pf i l) l dl := by
  obtain ⟨tf, fi, fe, hv, T, hli, hle⟩ := h
  have h3 := T.small
  have a1 := cnt_le Peer.done pf (l + 1)
  have a2 := cnt_le Peer.br pf (l + 1)
  refine (trem_any g i l _ (cnt Peer.done (sw pf i l) l) dl _ (cnt Peer.br (sw pf i l) l) l tf pf fi fe (l + 1) (l + 1) w T hi ⟨hli.1 i hi, hli.1 l (by omega), hle.1 i hi, hle.1 l (by omega)⟩ (cnt_swap _ pf hi) (cnt_swap _ pf hi) ⟨by omega, by omega, by omega⟩).mono ?_
  rintro e w' ⟨rfl, hF, tf', T'⟩
  exact ⟨rfl, hF, tf' 0, tf', _, _, rfl, T', hli.swap hi, hle.swap hi⟩

end Go.Proofs.YbulkbdskDoor
