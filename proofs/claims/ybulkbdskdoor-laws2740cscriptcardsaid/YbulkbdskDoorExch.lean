/-
  A region that draws its order and exchanges two places ('x.a[i], x.a[j] = x.a[j], x.a[i]'): its reads may be taken in the text's order, in the one world; one move that the first store does not wait for is taken ahead of all; the stores' order is forced.
-/
import Derived.Test.YbulkbdskDoorMem
import Derived.StillTail
import Derived.StillTactics
import Derived.OrdersHeld
namespace Go.Proofs.YbulkbdskDoor
open Go Go.RowKit

section
variable {P : Program} {ops : Array Oper} {md : Region.Mode} {w : World}

/-- f reads in whatever order, each in the world w; then L. -/
def wpReads (P : Program) (md : Region.Mode) (ops : Array Oper) (w : World) (L : Array Bool → Act → Prop) : Nat → Array Bool → Act → Prop
  | 0, listed, a => L listed a
  | f + 1, listed, a => Region.ready md ops listed ≠ [] ∧ ∀ i ∈ Region.ready md ops listed, stOp P ops w i (wpReads P md ops w L f (listed.setIfInBounds i true)) a

theorem wpAny_of_reads {g : Nat} {L : Array Bool → Act → Prop} {Q : Exit → Act → World → Prop} (hL : ∀ listed a, L listed a → wpAny P md ops Q g listed a w) :
    ∀ (f : Nat) (listed : Array Bool) (a : Act), wpReads P md ops w L f listed a → wpAny P md ops Q (f + g) listed a w
  | 0, listed, a, h => by rw [Nat.zero_add]; exact hL _ _ h
  | f + 1, listed, a, h => by
    rw [Nat.add_right_comm]
    exact ⟨fun h0 => absurd h0 h.1, fun i hi => wpOp_of_stOp (fun a' h' => wpAny_of_reads hL f _ a' h') (h.2 i hi)⟩

/-- What has come up, has come up behind all that it waits for. -/
def Closed (md : Region.Mode) (ops : Array Oper) (listed : Array Bool) : Prop :=
  ∀ j oj, ops[j]? = some oj → listed.getD j false = true → ∀ e ∈ oj.after, Region.binds md e = true → listed.getD e.on false = true

theorem Closed.set {listed : Array Bool} {i : Nat} (h : Closed md ops listed) (hi : i ∈ Region.ready md ops listed) : Closed md ops (listed.setIfInBounds i true) := by
  obtain ⟨_, oi, hoi, hall⟩ := mem_ready.1 hi
  intro j oj hj hl e he hb
  by_cases hij : i = j
  · subst hij
    obtain rfl : oj = oi := Option.some.inj (hj.symm.trans hoi)
    exact getD_set_true (hall e he hb)
  · rw [getD_set_ne false hij] at hl
    exact getD_set_true (h j oj hj hl e he hb)

theorem unlisted {listed : Array Bool} {i : Nat} (h : listed.getD i true = false) : listed.getD i false = false := by
  rcases Nat.lt_or_ge i listed.size with h' | h'
  · simp [h'] at h ⊢; exact h
  · simp [Array.getElem?_eq_none h'] at h

theorem reads_first {i : Nat} {oi : Oper} {v : Value} {L : Array Bool → Act → Prop} (hi : ops[i]? = some oi) (hsel : ∀ (j : Nat) (o : Oper) cs b, ops[j]? = some o → o.op ≠ .select cs b)
    (hbase : ∀ listed a, Closed md ops listed → i ∈ Region.ready md ops listed → L (listed.setIfInBounds i true) a → ∀ j ∈ Region.ready md ops listed, j = i) :
    ∀ (f : Nat) (listed : Array Bool) (a : Act), Closed md ops listed →
      (∀ j oj, ops[j]? = some oj → j ≠ i → listed.getD j true = false → (∀ e ∈ oj.after, Region.binds md e = true → e.on ≠ i) → oi.apart ops oj = true) →
      i ∈ Region.ready md ops listed → YieldsAt P ops w oi v a → wpReads P md ops w L f (listed.setIfInBounds i true) (a.put oi.dst v) → wpReads P md ops w L (f + 1) listed a := by
  intro f
  induction f with
  | zero =>
    intro listed a hc _ hr hy H
    refine ⟨fun h => (by rw [h] at hr; cases hr), fun j hj => ?_⟩
    obtain rfl := hbase listed _ hc hr H j hj
    exact hy.stOp hi H
  | succ f ih =>
    intro listed a hc hfree hr hy H
    have hun := (mem_ready.1 hr).1
    refine ⟨fun h => (by rw [h] at hr; cases hr), fun j hj => ?_⟩
    by_cases hji : j = i
    · subst hji; exact hy.stOp hi H
    · have h1 := H.2 j (ready_mono hj hji)
      obtain ⟨hjun, oj, hoj, hall⟩ := mem_ready.1 hj
      have hnot : ∀ e ∈ oj.after, Region.binds md e = true → e.on ≠ i := fun e he hb heq => by
        have h1 := hall e he hb
        rw [heq, unlisted hun] at h1
        cases h1
      have h2 := stOp_put hoj (hfree j oj hoj hji hjun hnot) (fun cs b => hsel i oi cs b hi) (fun cs b => hsel j oj cs b hoj) hy h1
      refine stOp_mono (fun a' h3 => ih (listed.setIfInBounds j true) a' (hc.set hj) (fun k ok hk hki hun hno => ?_) (ready_mono hr (Ne.symm hji)) h3.1 ?_) h2
      · refine hfree k ok hk hki ?_ hno
        by_cases hjk : j = k
        · subst hjk; exact hjun
        · rw [getD_set_ne true hjk] at hun; exact hun
      · rw [Array.setIfInBounds_comm _ _ hji]
        exact h3.2

/-- When all the reads but i have come up, nothing else may come up. -/
def baseB (md : Region.Mode) (ops : Array Oper) (F : Array Bool) (i : Nat) : Bool :=
  (List.range ops.size).any (fun j => decide (j ≠ i) && F.getD j false && Region.waitsFor md ops j i) || decide (Region.ready md ops (F.setIfInBounds i false) = [i])

theorem base_of {F : Array Bool} {i : Nat} (hB : baseB md ops F i = true) {listed : Array Bool} (hc : Closed md ops listed) (hr : i ∈ Region.ready md ops listed) (hF : listed.setIfInBounds i true = F) : ∀ j ∈ Region.ready md ops listed, j = i := by
  have hun := (mem_ready.1 hr).1
  have hl : F.setIfInBounds i false = listed := by
    rw [← hF]
    apply Array.ext_getElem?
    intro k
    simp only [Array.getElem?_setIfInBounds]
    by_cases e : i = k
    · subst e
      rcases Nat.lt_or_ge i listed.size with h' | h'
      · simp [h'] at hun ⊢
        exact hun
      · simp [Array.getElem?_eq_none h'] at hun
    · simp [e]
  simp only [baseB, Bool.or_eq_true, decide_eq_true_eq] at hB
  rcases hB with hB | hB
  · obtain ⟨j, _, hj⟩ := List.any_eq_true.1 hB
    simp only [Bool.and_eq_true, decide_eq_true_eq] at hj
    obtain ⟨oj, hoj, e, he, hb, hon⟩ := Region.waitsFor_spec hj.2
    have h1 : listed.getD j false = true := by
      have := hj.1.2
      rw [← hF, getD_set_ne false (Ne.symm hj.1.1)] at this
      exact this
    have h2 := hc j oj hoj h1 e he hb
    rw [hon, unlisted hun] at h2
    cases h2
  · rw [hl] at hB
    intro j hj
    rw [hB] at hj
    simpa using hj

/-- The reads, in the text's order: each may come up, is free, and is no other's door. -/
def lexR (md : Region.Mode) (ops : Array Oper) (F : Array Bool) : List Nat → Array Bool → Bool
  | [], listed => decide (listed = F)
  | k :: ks, listed => (Region.ready md ops listed).contains k && Region.free md ops listed k && baseB md ops F k && lexR md ops F ks (listed.setIfInBounds k true)

theorem reads_lex {F : Array Bool} {Lq : Act → Prop} (hsel : Region.noSelect ops = true) :
    ∀ (ks : List Nat) (l : List Oper) (listed : Array Bool) (a : Act), ks.map (fun k => ops[k]?) = l.map some → Closed md ops listed → lexR md ops F ks listed = true → wpStill P ops w Lq l a →
    wpReads P md ops w (fun listed' a' => listed' = F ∧ Lq a') ks.length listed a
  | [], l, listed, a, hl, _, hB, h => by
    obtain rfl : l = [] := by simpa using hl.symm
    exact ⟨by simpa [lexR] using hB, h⟩
  | k :: ks, l, listed, a, hl, hc, hB, h => by
    cases l with
    | nil => simp at hl
    | cons o l =>
      simp only [List.map_cons, List.cons.injEq] at hl
      obtain ⟨h0, hl⟩ := hl
      simp only [lexR, Bool.and_eq_true] at hB
      obtain ⟨⟨⟨hr, hf⟩, hb⟩, hB'⟩ := hB
      have hr' : k ∈ Region.ready md ops listed := by simpa using hr
      have hst : stOp P ops w k (wpStill P ops w Lq l) a := by unfold stOp; simp only [h0]; exact h
      obtain ⟨v, hy, hK⟩ := yieldsAt_of_stOp h0 hst
      exact reads_first h0 (Region.noSelect_spec hsel) (fun listed' a' hc' hr'' hL => base_of hb hc' hr'' hL.1) ks.length listed a hc (Region.free_spec h0 hf) hr' hy (reads_lex hsel ks l _ _ hl (hc.set hr') hB' hK)

theorem map_erase {α β : Type} (f : α → β) : ∀ (l : List α) (m : Nat), (l.eraseIdx m).map f = (l.map f).eraseIdx m
  | [], _ => by simp
  | x :: l, 0 => by simp
  | x :: l, m + 1 => by simp [map_erase f l m]

/-- Whether the region is of this make: its reads 0 .. n - 1, number m of them the move that is taken ahead; the rest in a forced order. -/
def exchB (ops : Array Oper) (n m : Nat) : Bool :=
  Region.noSelect ops && decide (m < n) && decide (n < ops.size) && (Region.ready .any ops (Array.replicate ops.size false)).contains m && Region.free .any ops (Array.replicate ops.size false) m &&
  (match ops[m]? with | some o => o.after.all (fun e => !Region.binds .any e) | none => false) &&
  lexR .any ops ((List.range ops.size).map (fun i => decide (i < n))).toArray ((List.range n).eraseIdx m) ((Array.replicate ops.size false).setIfInBounds m true) &&
  Region.seqB .any ops (ops.size - n) n ((List.range ops.size).map (fun i => decide (i < n))).toArray

theorem held_of_reads {g : Nat} {L : Array Bool → Act → Prop} {Q : Exit → Act → World → Prop} {S : World → Prop} (hS : S w) (hL : ∀ listed a, L listed a → wpAnyH P md ops Q S g listed a w) :
    ∀ (f : Nat) (listed : Array Bool) (a : Act), wpReads P md ops w L f listed a → wpAnyH P md ops Q S (f + g) listed a w
  | 0, listed, a, h => by rw [Nat.zero_add]; exact hL _ _ h
  | f + 1, listed, a, h => by
    rw [Nat.add_right_comm]
    exact ⟨fun h0 => absurd h0 h.1, fun i hi => wpOp_of_stOp (fun a' h' => ⟨hS, held_of_reads hS hL f _ a' h'⟩) (h.2 i hi)⟩

/-- The four operations behind the reads, one behind the other; S behind each. -/
def tail4 (P : Program) (ops : Array Oper) (Q : Exit → Act → World → Prop) (S : World → Prop) (n : Nat) (a : Act) (w : World) : Prop :=
  wpOp P ops Q n (fun a w => S w ∧ wpOp P ops Q (n + 1) (fun a w => S w ∧ wpOp P ops Q (n + 2) (fun a w => S w ∧ wpOp P ops Q (n + 3) (fun a w => S w ∧ Q .normal a w) a w) a w) a w) a w

theorem held_of_tail4 {Q : Exit → Act → World → Prop} {S : World → Prop} {n : Nat} {listed : Array Bool} {a : Act} (hB : Region.seqB md ops 4 n listed = true) (h : tail4 P ops Q S n a w) : wpAnyH P md ops Q S 4 listed a w := by
  simp only [Region.seqB, Bool.and_eq_true, decide_eq_true_eq, List.isEmpty_iff] at hB
  obtain ⟨h1, h2, h3, h4, h5⟩ := hB
  refine wpAnyH_all h1 (by simp) (fun i hi => ?_)
  obtain rfl : i = n := by simpa using hi
  refine wpOp_mono (fun a w ⟨hs, h⟩ => ⟨hs, ?_⟩) h
  refine wpAnyH_all h2 (by simp) (fun j hj => ?_)
  obtain rfl : j = i + 1 := by simpa using hj
  refine wpOp_mono (fun a w ⟨hs, h⟩ => ⟨hs, ?_⟩) h
  refine wpAnyH_all h3 (by simp) (fun j hj => ?_)
  obtain rfl : j = i + 1 + 1 := by simpa using hj
  refine wpOp_mono (fun a w ⟨hs, h⟩ => ⟨hs, ?_⟩) h
  refine wpAnyH_all h4 (by simp) (fun j hj => ?_)
  obtain rfl : j = i + 1 + 1 + 1 := by simpa using hj
  exact wpOp_mono (fun a w ⟨hs, h⟩ => ⟨hs, wpAnyH_done h5 h 0⟩) h

theorem wp_region_exch {id : Nat} {Q : Exit → Act → World → Prop} {a : Act} {w : World} {l : List Oper} (n m : Nat) (S : World → Prop) {o : Oper} {v : Value} (hm : P.follows .mixedOrders = true) (ho : l.toArray[m]? = some o) (hB : exchB l.toArray n m = true) (h4 : l.length = n + 4)
    (hQ : ∀ c a w, Q (.panic c) (a.put o.dst v) w → Q (.panic c) a w) (hy : YieldsIf P l.toArray S o v a) (hS : S w.drew)
    (h : wpStill P l.toArray w.drew (fun a' => tail4 P l.toArray Q S n a' w.drew) ((l.take n).eraseIdx m) (a.put o.dst v)) : (Code.region id l.toArray true).wp P Q a w := by
  simp only [exchB, Bool.and_eq_true, decide_eq_true_eq] at hB
  obtain ⟨⟨⟨⟨⟨⟨⟨hsel, hmn⟩, hn⟩, hr⟩, hf⟩, ha⟩, hlex⟩, hseq⟩ := hB
  have hn' : n < l.length := by simpa using hn
  refine wp_region_held (S := S) hm ?_
  have hsz : l.toArray.size = (l.toArray.size - 1) + 1 := by omega
  rw [ho] at ha
  have hc : Closed .any l.toArray ((Array.replicate l.toArray.size false).setIfInBounds m true) := by
    intro j oj hj hl e he hb
    by_cases hmj : m = j
    · subst hmj
      obtain rfl : oj = o := Option.some.inj (hj.symm.trans ho)
      have := Array.all_eq_true'.1 ha e he
      simp [hb] at this
    · rw [getD_set_ne false hmj, getD_replicate_false] at hl
      cases hl
  have hks : ((List.range n).eraseIdx m).length = n - 1 := by rw [List.length_eraseIdx]; simp [hmn]
  have H := reads_lex (P := P) (w := w.drew) hsel ((List.range n).eraseIdx m) ((l.take n).eraseIdx m) _ (a.put o.dst v) (by
    rw [map_erase, map_erase]
    congr 1
    apply List.ext_getElem?
    intro k
    by_cases hk : k < n
    · simp [hk, List.getElem?_eq_getElem (show k < l.length by omega)]
    · simp [hk, List.getElem?_take]) hc hlex h
  have e4 : l.toArray.size - n = 4 := by simp; omega
  rw [e4] at hseq
  have K := held_of_reads (Q := Q) (g := 4) hS (fun listed a' hL => by
    obtain ⟨rfl, hL⟩ := hL
    exact held_of_tail4 hseq hL) _ _ _ H
  rw [hks, show n - 1 + 4 = l.toArray.size - 1 by simp; omega] at K
  have T := wpAnyH_take (P := P) (Q := Q) (v := v) (w := w.drew) (a := a) ho hsel hf hr hQ hy hS K
  rw [← hsz] at T
  exact T

theorem wpOp_value (d : Tmp) {Q : Exit → Act → World → Prop} {K : Act → World → Prop} {i : Nat} {o : Oper} {a : Act} {v : Value} {w' : World} (hi : ops[i]? = some o) (hd : o.dst = some d) (hg : o.guard = none) (hrun : (execOp a.eval o).run P w = .ok (.value v) w') (h : K (a.put (some d) v) w') : wpOp P ops Q i K a w := by
  have hw : Region.wanted o (yielded ops a.tmps) = true := by simp [Region.wanted, hg]
  unfold wpOp
  simp only [hi, hw, if_true, Oper.wp, hrun, Oper.upon]
  rw [hd]
  exact .inl h
theorem wpOp_skip {Q : Exit → Act → World → Prop} {K : Act → World → Prop} {i : Nat} {o : Oper} {a : Act} {w' : World} (hi : ops[i]? = some o) (hd : o.dst = none) (hg : o.guard = none) (hrun : (execOp a.eval o).run P w = .ok .skip w') (h : K a w') : wpOp P ops Q i K a w := by
  have hw : Region.wanted o (yielded ops a.tmps) = true := by simp [Region.wanted, hg]
  unfold wpOp
  simp only [hi, hw, if_true, Oper.wp, hrun, Oper.upon]
  rw [hd]
  exact .inl h

theorem exec_load {o : Oper} {a : Act} {ty : TypeId} {x : Operand} {ad : Addr} {v : Value} (hop : o.op = .load ty x) (hx : a.eval x = .pointer (some ad)) (hl : (loadVar ty ad).run P w = .ok v w) : (execOp a.eval o).run P w = .ok (.value v) w := by
  unfold execOp
  simp only [hop, hx, Instr.loadAt, Instr.sureAddr, Sem.run_bind, Sem.run_pure, Result.andThen_ok, hl]
theorem exec_store {o : Oper} {a : Act} {ty : TypeId} {x y : Operand} {ad : Addr} {v : Value} {w' : World} (hop : o.op = .store ty x y) (hx : a.eval x = .pointer (some ad)) (hy : a.eval y = v) (hs : (storeVar ty ad v).run P w = .ok () w') : (execOp a.eval o).run P w = .ok .skip w' := by
  unfold execOp
  simp only [hop, hx, hy, Instr.storeAt, Instr.sureAddr, Sem.run_bind, Sem.run_pure, Result.andThen_ok, hs]

theorem cell_set_other {w : World} {b k b' k' : Nat} {v u : Value} (h : b' ≠ b) (hc : w.cell? ⟨b', k', none⟩ = some u) : (w.setCell ⟨b, k, none⟩ v).cell? ⟨b', k', none⟩ = some u :=
  (World.cell?_of_block (Below.heap_setCell _ _ _ _ h)).trans hc

/-- A read by an equation on its run. -/
theorem wpStill_value (d : Tmp) {Lq : Act → Prop} {a : Act} {o : Oper} {rest : List Oper} {v : Value} (hd : o.dst = some d) (hg : o.guard = none) (hrun : (execOp a.eval o).run P w = .ok (.value v) w) (h : wpStill P ops w Lq rest (a.put (some d) v)) : wpStill P ops w Lq (o :: rest) a := by
  have hw : Region.wanted o (yielded ops a.tmps) = true := by simp [Region.wanted, hg]
  unfold wpStill
  rw [if_pos hw]
  simp only [Oper.still, hrun, Oper.stillUpon]
  rw [hd]
  exact ⟨trivial, h⟩
end

end Go.Proofs.YbulkbdskDoor
