/-
  The plain law: what a put does to the peers; the law's own arrays beside it.
-/
import Derived.Test.YbulkbdskDoorAnn
namespace Go.Proofs.YbulkbdskDoor
open Go Go.RowKit

/-- The peers behind the removal of the one that holds the endpoint under another id. -/
structure PA (pf : Nat → Peer) (n : Nat) (pf1 : Nat → Peer) (n1 id port : Nat) : Prop where
  free : ∀ k, k < n1 → (pf1 k).port = port → (pf1 k).id = id
  old : ∀ k, k < n1 → ∃ j, j < n ∧ pf1 k = pf j
  kept : ∀ j, j < n → ((pf j).port = port → (pf j).id = id) → ∃ k, k < n1 ∧ pf1 k = pf j

theorem PA.same {pf : Nat → Peer} {n id port : Nat} (h : ∀ k, k < n → (pf k).port = port → (pf k).id = id) : PA pf n pf n id port :=
  ⟨h, fun k hk => ⟨k, hk, rfl⟩, fun j hj _ => ⟨j, hj, rfl⟩⟩

theorem PA.evict {pf : Nat → Peer} {l id port j : Nat} {fe : Nat → Option Int} (h : Look Peer.port pf (l + 1) fe) (hj : j < l + 1) (hp : (pf j).port = port) (hi : (pf j).id ≠ id) : PA pf (l + 1) (sw pf j l) l id port := by
  have key : ∀ k, k < l → ∃ k', k' < l + 1 ∧ k' ≠ j ∧ sw pf j l k = pf k' := fun k hk => by
    unfold sw
    rw [if_neg (by omega)]
    by_cases e : k = j
    · rw [if_pos e]; exact ⟨l, by omega, by omega, rfl⟩
    · rw [if_neg e]; exact ⟨k, by omega, e, rfl⟩
  refine ⟨fun k hk e => ?_, fun k hk => ?_, fun k hk e => ?_⟩
  · obtain ⟨k', h1, h2, h3⟩ := key k hk
    rw [h3] at e
    exact absurd (h.inj h1 hj (e.trans hp.symm)) h2
  · obtain ⟨k', h1, _, h3⟩ := key k hk
    exact ⟨k', h1, h3⟩
  · have hkj : k ≠ j := fun e' => by subst e'; exact hi (e hp)
    by_cases e' : k = l
    · subst e'
      exact ⟨j, by omega, by unfold sw; rw [if_neg (by omega), if_pos rfl]⟩
    · exact ⟨k, by omega, by unfold sw; rw [if_neg e', if_neg hkj]⟩

/-- What a put does. -/
structure PutPost (pf : Nat → Peer) (n dl id port : Nat) (dn ev br : Bool) (s : Nat) (pf' : Nat → Peer) (n' dl' i : Nat) : Prop where
  lt : i < n'
  here : ∃ b, pf' i = ⟨id, port, dn, b, s⟩ ∧ ((∃ j, j < n ∧ (pf j).id = id ∧ b = (pf j).br ∧ dl' = dl + if dn && !(pf j).done then 1 else 0) ∨ ((∀ j, j < n → (pf j).id ≠ id) ∧ b = br ∧ dl' = dl + if dn && ev then 1 else 0))
  old : ∀ j, j < n' → j ≠ i → ∃ k, k < n ∧ pf' j = pf k ∧ (pf k).id ≠ id ∧ (pf k).port ≠ port
  kept : ∀ k, k < n → (pf k).id ≠ id → (pf k).port ≠ port → ∃ j, j < n' ∧ pf' j = pf k

theorem PutPost.known {pf pf1 : Nat → Peer} {n n1 dl dl' id port s i : Nat} {dn ev br : Bool} (h : PA pf n pf1 n1 id port) (inj : ∀ a b, a < n1 → b < n1 → (pf1 a).id = (pf1 b).id → a = b) (hi : i < n1) (hid : (pf1 i).id = id) (hdl : dl' = dl + if dn && !(pf1 i).done then 1 else 0) :
    PutPost pf n dl id port dn ev br s (upd pf1 i ⟨id, port, dn, (pf1 i).br, s⟩) n1 dl' i := by
  refine ⟨hi, ⟨(pf1 i).br, by unfold upd; rw [if_pos rfl], .inl ?_⟩, fun j hj hji => ?_, fun k hk h1 h2 => ?_⟩
  · obtain ⟨j, hj, e⟩ := h.old i hi
    rw [e] at hid hdl ⊢
    exact ⟨j, hj, hid, rfl, hdl⟩
  · obtain ⟨k, hk, e⟩ := h.old j hj
    refine ⟨k, hk, by unfold upd; rw [if_neg hji, e], ?_⟩
    have hne : (pf1 j).id ≠ id := fun e' => hji (inj j i hj hi (e'.trans hid.symm))
    have hnp : (pf1 j).port ≠ port := fun e' => hne (h.free j hj e')
    rw [e] at hne hnp
    exact ⟨hne, hnp⟩
  · obtain ⟨j, hj, e⟩ := h.kept k hk (fun e => absurd e h2)
    refine ⟨j, hj, ?_⟩
    unfold upd
    rw [if_neg (fun e' => by subst e'; rw [e] at hid; exact h1 hid), e]

theorem PutPost.fresh {pf pf1 : Nat → Peer} {n n1 dl dl' id port s : Nat} {dn ev br : Bool} (h : PA pf n pf1 n1 id port) (hne : ∀ k, k < n1 → (pf1 k).id ≠ id) (q : Peer) (hdl : dl' = dl + if dn && ev then 1 else 0) :
    PutPost pf n dl id port dn ev br s (upd (upd pf1 n1 q) n1 ⟨id, port, dn, br, s⟩) (n1 + 1) dl' n1 := by
  have hu : ∀ j, j ≠ n1 → upd (upd pf1 n1 q) n1 ⟨id, port, dn, br, s⟩ j = pf1 j := fun j hj => by unfold upd; rw [if_neg hj, if_neg hj]
  refine ⟨by omega, ⟨br, by unfold upd; rw [if_pos rfl], .inr ⟨fun j hj e => ?_, rfl, hdl⟩⟩, fun j hj hji => ?_, fun k hk h1 h2 => ?_⟩
  · obtain ⟨k, hk, e'⟩ := h.kept j hj (fun _ => e)
    exact hne k hk (by rw [e', e])
  · obtain ⟨k, hk, e⟩ := h.old j (by omega)
    refine ⟨k, hk, by rw [hu j hji, e], ?_⟩
    have h1 := hne j (by omega)
    have h2 : (pf1 j).port ≠ port := fun e' => h1 (h.free j (by omega) e')
    rw [e] at h1 h2
    exact ⟨h1, h2⟩
  · obtain ⟨j, hj, e⟩ := h.kept k hk (fun e => absurd e h2)
    exact ⟨j, by omega, by rw [hu j (by omega), e]⟩

/-- The law's arrays and the peers. -/
structure Mod (pr dn br : Nat → Bool) (po : Nat → Nat) (pf : Nat → Peer) (n : Nat) : Prop where
  has : ∀ j, j < n → pr (pf j).id = true ∧ dn (pf j).id = (pf j).done ∧ br (pf j).id = (pf j).br ∧ po (pf j).id = (pf j).port
  all : ∀ k, k < 4 → pr k = true → ∃ j, j < n ∧ (pf j).id = k

/-- The arrays in the midst of the law's first loop. -/
def Evi (m id port : Nat) (pr dn br : Nat → Bool) (po : Nat → Nat) (pr' dn' br' : Nat → Bool) : Prop :=
  ∀ k, k < 4 → (k < m ∧ k ≠ id ∧ pr k = true ∧ po k = port → pr' k = false) ∧ (¬ (k < m ∧ k ≠ id ∧ pr k = true ∧ po k = port) → pr' k = pr k ∧ dn' k = dn k ∧ br' k = br k)

def updB (f : Nat → Bool) (i : Nat) (b : Bool) : Nat → Bool := fun j => if j = i then b else f j
def updN (f : Nat → Nat) (i : Nat) (b : Nat) : Nat → Nat := fun j => if j = i then b else f j

section
variable {m id port : Nat} {pr dn br pr' dn' br' : Nat → Bool} {po : Nat → Nat}

theorem Evi.zero : Evi 0 id port pr dn br po pr dn br := fun k _ => ⟨fun h => by omega, fun _ => ⟨rfl, rfl, rfl⟩⟩

theorem Evi.stay (h : Evi m id port pr dn br po pr' dn' br') (hn : ¬ (m ≠ id ∧ pr' m = true ∧ po m = port)) : Evi (m + 1) id port pr dn br po pr' dn' br' := fun k hk => by
  have hk' := h k hk
  by_cases e : k = m
  · subst e
    have := hk'.2 (by omega)
    refine ⟨fun hh => absurd ⟨hh.2.1, by rw [this.1]; exact hh.2.2.1, hh.2.2.2⟩ hn, fun _ => this⟩
  · exact ⟨fun hh => hk'.1 ⟨by omega, hh.2⟩, fun hh => hk'.2 (fun h2 => hh ⟨by omega, h2.2⟩)⟩

theorem Evi.out (h : Evi m id port pr dn br po pr' dn' br') (hm : m ≠ id) (hp : pr' m = true) (he : po m = port) : Evi (m + 1) id port pr dn br po (updB pr' m false) (updB dn' m false) (updB br' m false) := fun k hk => by
  have hk' := h k hk
  unfold updB
  by_cases e : k = m
  · subst e
    have := hk'.2 (by omega)
    refine ⟨fun _ => if_pos rfl, fun hh => absurd ⟨by omega, hm, by rw [← this.1]; exact hp, he⟩ hh⟩
  · rw [if_neg e, if_neg e, if_neg e]
    exact ⟨fun hh => hk'.1 ⟨by omega, hh.2⟩, fun hh => hk'.2 (fun h2 => hh ⟨by omega, h2.2⟩)⟩
end

section
variable {pf pf' : Nat → Peer} {n n' dl dl' id port s i : Nat} {pr dn br pr' dn' br' : Nat → Bool} {po : Nat → Nat} {d ev b : Bool}

/-- Was the id held: the arrays say it as the peers do. -/
theorem Evi.self (h : Evi 4 id port pr dn br po pr' dn' br') (hi : id < 4) : pr' id = pr id ∧ dn' id = dn id ∧ br' id = br id :=
  (h id hi).2 (fun hh => hh.2.1 rfl)

theorem Mod.step (h : Mod pr dn br po pf n) (hE : Evi 4 id port pr dn br po pr' dn' br') (hid : id < 4) (hok : ∀ j, j < n → (pf j).id < 4) (P : PutPost pf n dl id port d ev b s pf' n' dl' i) :
    Mod (updB pr' id true) (updB dn' id d) (updB br' id (if pr' id then br' id else b)) (updN po id port) pf' n' ∧ dl' = dl + if d && (if pr' id then !dn' id else ev) then 1 else 0 := by
  obtain ⟨bb, hpf, hb⟩ := P.here
  have hs := hE.self hid
  have hdb : bb = (if pr' id then br' id else b) ∧ dl' = dl + if d && (if pr' id then !dn' id else ev) then 1 else 0 := by
    rcases hb with ⟨j, hj, hji, hbj, hdl⟩ | ⟨hne, hbb, hdl⟩
    · have := h.has j hj
      rw [hji] at this
      rw [hs.1, this.1, if_pos rfl, if_pos rfl, hs.2.2, this.2.2.1, hs.2.1, this.2.1]
      exact ⟨hbj, hdl⟩
    · have : pr id = false := by
        cases e : pr id with
        | false => rfl
        | true =>
          obtain ⟨j, hj, e'⟩ := h.all id hid e
          exact absurd e' (hne j hj)
      rw [hs.1, this]
      exact ⟨hbb, hdl⟩
  refine ⟨⟨fun j hj => ?_, fun k hk hp => ?_⟩, hdb.2⟩
  · by_cases e : j = i
    · subst e
      rw [hpf]
      unfold updB updN
      simp only [if_pos]
      exact ⟨trivial, trivial, hdb.1.symm, trivial⟩
    · obtain ⟨k, hk, e1, e2, e3⟩ := P.old j hj e
      have h1 := h.has k hk
      have h2 := (hE (pf k).id (hok k hk)).2 (fun hh => e3 (by rw [← h1.2.2.2]; exact hh.2.2.2))
      rw [e1]
      unfold updB updN
      rw [if_neg e2, if_neg e2, if_neg e2, if_neg e2, h2.1, h2.2.1, h2.2.2]
      exact h1
  · unfold updB at hp
    by_cases e : k = id
    · exact ⟨i, P.lt, by rw [hpf, e]⟩
    · rw [if_neg e] at hp
      have hn : ¬ (k < 4 ∧ k ≠ id ∧ pr k = true ∧ po k = port) := fun hh => by
        rw [(hE k hk).1 hh] at hp; cases hp
      have h2 := (hE k hk).2 hn
      rw [h2.1] at hp
      obtain ⟨j0, hj0, e0⟩ := h.all k hk hp
      have h3 := h.has j0 hj0
      rw [e0] at h3
      obtain ⟨j, hj, e1⟩ := P.kept j0 hj0 (by rw [e0]; exact e) (fun e' => hn ⟨hk, e, hp, by rw [h3.2.2.2, e']⟩)
      exact ⟨j, hj, by rw [e1, e0]⟩
end

/-- How many of the four. -/
def sum4 (P : Nat → Bool) : Nat → Nat
  | 0 => 0
  | m + 1 => sum4 P m + (if P m then 1 else 0)

theorem sum4_upd (P : Nat → Bool) {x : Nat} : ∀ m, x < m → P x = true → sum4 P m = sum4 (updB P x false) m + 1
  | 0, h, _ => by omega
  | m + 1, h, hx => by
    unfold sum4
    by_cases e : m = x
    · subst e
      have : ∀ k, k ≤ m → sum4 (updB P m false) k = sum4 P k := fun k => by
        induction k with
        | zero => intro _; rfl
        | succ k ih =>
          intro hk
          unfold sum4
          have e : updB P m false k = P k := by unfold updB; rw [if_neg (by omega)]
          rw [ih (by omega), e]
      rw [this m (Nat.le_refl _), hx]
      unfold updB
      simp
    · rw [sum4_upd P m (by omega) hx]
      have : updB P x false m = P m := by unfold updB; rw [if_neg e]
      rw [this]
      omega

theorem sum4_congr {P Q : Nat → Bool} : ∀ m, (∀ k, k < m → P k = Q k) → sum4 P m = sum4 Q m
  | 0, _ => rfl
  | m + 1, h => by
    unfold sum4
    rw [sum4_congr m (fun k hk => h k (by omega)), h m (by omega)]

theorem sum4_cnt (f : Peer → Bool) (pf : Nat → Peer) : ∀ n (P : Nat → Bool), (∀ j, j < n → (pf j).id < 4 ∧ P (pf j).id = f (pf j)) → (∀ k, k < 4 → P k = true → ∃ j, j < n ∧ (pf j).id = k) → (∀ a b, a < n → b < n → (pf a).id = (pf b).id → a = b) → sum4 P 4 = cnt f pf n
  | 0, P, _, h2, _ => by
    have : ∀ k, k < 4 → P k = false := fun k hk => by
      cases e : P k with
      | false => rfl
      | true =>
        obtain ⟨j, hj, _⟩ := h2 k hk e
        omega
    rw [sum4_congr 4 (Q := fun _ => false) this]
    rfl
  | n + 1, P, h1, h2, h3 => by
    obtain ⟨hn, hP⟩ := h1 n (by omega)
    have ih := sum4_cnt f pf n (updB P (pf n).id false) (fun j hj => ⟨(h1 j (by omega)).1, by
        unfold updB
        rw [if_neg (fun e => by have := h3 j n (by omega) (by omega) e; omega)]
        exact (h1 j (by omega)).2⟩) (fun k hk hp => by
        unfold updB at hp
        by_cases e : k = (pf n).id
        · rw [if_pos e] at hp; cases hp
        · rw [if_neg e] at hp
          obtain ⟨j, hj, e'⟩ := h2 k hk hp
          refine ⟨j, ?_, e'⟩
          rcases Nat.lt_or_ge j n with h | h
          · exact h
          · obtain rfl : j = n := by omega
            exact absurd e'.symm e) (fun a b ha hb => h3 a b (by omega) (by omega))
    unfold cnt
    rw [← ih, ← hP]
    cases e : P (pf n).id with
    | true => rw [sum4_upd P 4 hn e]; simp
    | false =>
      rw [if_neg (by simp), Nat.add_zero]
      refine sum4_congr 4 (fun k hk => ?_)
      unfold updB
      by_cases e' : k = (pf n).id
      · rw [if_pos e', e', e]
      · rw [if_neg e']

/-- The three sums that the law takes. -/
theorem Mod.sums {pr dn br : Nat → Bool} {po : Nat → Nat} {pf : Nat → Peer} {n : Nat} (h : Mod pr dn br po pf n) (hok : ∀ j, j < n → (pf j).id < 4) (inj : ∀ a b, a < n → b < n → (pf a).id = (pf b).id → a = b) :
    sum4 pr 4 = n ∧ sum4 (fun k => pr k && dn k) 4 = cnt Peer.done pf n ∧ sum4 (fun k => pr k && br k) 4 = cnt Peer.br pf n := by
  refine ⟨?_, ?_, ?_⟩
  · rw [sum4_cnt (fun _ => true) pf n pr (fun j hj => ⟨hok j hj, (h.has j hj).1⟩) h.all inj]
    clear h hok inj
    induction n with
    | zero => rfl
    | succ n ih => unfold cnt; rw [ih]; rfl
  · refine sum4_cnt Peer.done pf n _ (fun j hj => ⟨hok j hj, by have := h.has j hj; rw [this.1, this.2.1]; rfl⟩) (fun k hk hp => h.all k hk ?_) inj
    cases e : pr k
    · rw [e] at hp; cases hp
    · rfl
  · refine sum4_cnt Peer.br pf n _ (fun j hj => ⟨hok j hj, by have := h.has j hj; rw [this.1, this.2.2.1]; rfl⟩) (fun k hk hp => h.all k hk ?_) inj
    cases e : pr k
    · rw [e] at hp; cases hp
    · rfl

end Go.Proofs.YbulkbdskDoor
