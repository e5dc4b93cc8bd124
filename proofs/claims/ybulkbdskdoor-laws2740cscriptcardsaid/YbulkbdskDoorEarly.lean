/-
  A region that draws its order, appends and stores ('x.f = append(x.f, e)'): the operations that the append does not wait for, or that it alone waits for, are taken ahead; then the reads of the element, in the text's order; then the rest, whose order is forced. C: what the operations that are taken ahead lean on; it must stand until operation t comes up.
-/
import Derived.Test.YbulkbdskDoorExch
import Derived.Test.YbulkbdskDoorEn
namespace Go.Proofs.YbulkbdskDoor
open Go Go.RowKit

section
variable {P : Program} {ops : Array Oper} {md : Region.Mode} {w : World} {Q : Exit → Act → World → Prop} {C : World → Prop} {t : Nat}

/-- Whatever order is picked from here on; C behind every operation till t has come up. -/
def wpAnyT (P : Program) (md : Region.Mode) (ops : Array Oper) (Q : Exit → Act → World → Prop) (C : World → Prop) (t : Nat) : Nat → Array Bool → Act → World → Prop
  | 0, listed, a, w => Region.ready md ops listed = [] ∧ Q .normal a w
  | fuel + 1, listed, a, w => (Region.ready md ops listed = [] → Q .normal a w) ∧
    ∀ i ∈ Region.ready md ops listed, wpOp P ops Q i (fun a' w' => ((listed.setIfInBounds i true).getD t true = false → C w') ∧ wpAnyT P md ops Q C t fuel (listed.setIfInBounds i true) a' w') a w

theorem wpAny_of_T : ∀ (fuel : Nat) (listed : Array Bool) (a : Act) (w : World), wpAnyT P md ops Q C t fuel listed a w → wpAny P md ops Q fuel listed a w
  | 0, _, _, _, h => h
  | fuel + 1, _, _, _, h => ⟨h.1, fun i hi => wpOp_mono (fun a' w' h' => wpAny_of_T fuel _ a' w' h'.2) (h.2 i hi)⟩

theorem wpAnyT_first {i : Nat} {oi : Oper} {v : Value} (hi : ops[i]? = some oi) (hsel : ∀ (j : Nat) (o : Oper) cs b, ops[j]? = some o → o.op ≠ .select cs b)
    (hQ : ∀ c a w, Q (.panic c) (a.put oi.dst v) w → Q (.panic c) a w) (hit : i ≠ t) (hwait : Region.waitsFor md ops t i = true) :
    ∀ (fuel : Nat) (listed : Array Bool) (a : Act) (w : World),
      (∀ j oj, ops[j]? = some oj → j ≠ i → listed.getD j true = false → (∀ e ∈ oj.after, Region.binds md e = true → e.on ≠ i) → oi.apart ops oj = true) →
      i ∈ Region.ready md ops listed → listed.getD t true = false → YieldsIf P ops C oi v a → C w →
      wpAnyT P md ops Q C t fuel (listed.setIfInBounds i true) (a.put oi.dst v) w → wpAnyT P md ops Q C t (fuel + 1) listed a w := by
  intro fuel
  induction fuel with
  | zero =>
    intro listed a w _ hr _ hy hS H
    refine ⟨fun h => (by rw [h] at hr; cases hr), fun j hj => ?_⟩
    by_cases hji : j = i
    · subst hji; exact hy.wpOp hi hS ⟨fun _ => hS, H⟩
    · have := ready_mono hj hji
      rw [H.1] at this
      cases this
  | succ fuel ih =>
    intro listed a w hfree hr ht hy hS H
    refine ⟨fun h => (by rw [h] at hr; cases hr), fun j hj => ?_⟩
    by_cases hji : j = i
    · subst hji; exact hy.wpOp hi hS ⟨fun _ => hS, H⟩
    · have h1 := H.2 j (ready_mono hj hji)
      obtain ⟨hjun, oj, hoj, hall⟩ := mem_ready.1 hj
      have hun := unlisted (mem_ready.1 hr).1
      have hnot : ∀ e ∈ oj.after, Region.binds md e = true → e.on ≠ i := fun e he hb heq => by
        have h1 := hall e he hb
        rw [heq, hun] at h1
        cases h1
      have hjt : j ≠ t := fun e => by
        subst e
        obtain ⟨ot, hot, e, he, hb, hon⟩ := Region.waitsFor_spec hwait
        obtain rfl : ot = oj := Option.some.inj (hot.symm.trans hoj)
        exact hnot e he hb hon
      have h2 := wpOp_putIf hoj (hfree j oj hoj hji hjun hnot) (fun cs b => hsel i oi cs b hi) (fun cs b => hsel j oj cs b hoj) hQ hy h1
      have hfree' : ∀ k ok, ops[k]? = some ok → k ≠ i → (listed.setIfInBounds j true).getD k true = false →
          (∀ e ∈ ok.after, Region.binds md e = true → e.on ≠ i) → oi.apart ops ok = true := fun k ok hk hki hun hno => by
        refine hfree k ok hk hki ?_ hno
        by_cases hjk : j = k
        · subst hjk; exact hjun
        · rw [getD_set_ne true hjk] at hun; exact hun
      have ht1 : (listed.setIfInBounds j true).getD t true = false := by rw [getD_set_ne true hjt]; exact ht
      have ht2 : ((listed.setIfInBounds i true).setIfInBounds j true).getD t true = false := by rw [getD_set_ne true hjt, getD_set_ne true hit]; exact ht
      refine wpOp_mono (fun a' w' h3 => ⟨fun _ => h3.2.1 ht2, ih (listed.setIfInBounds j true) a' w' hfree' (ready_mono hr (Ne.symm hji)) ht1 h3.1 (h3.2.1 ht2) ?_⟩) h2
      rw [Array.setIfInBounds_comm _ _ hji]
      exact h3.2.2

theorem wpAnyT_all {rs : List Nat} {fuel : Nat} {listed : Array Bool} {a : Act} {w : World} (hr : Region.ready md ops listed = rs) (hne : rs ≠ [])
    (h : ∀ i ∈ rs, wpOp P ops Q i (fun a' w' => ((listed.setIfInBounds i true).getD t true = false → C w') ∧ wpAnyT P md ops Q C t fuel (listed.setIfInBounds i true) a' w') a w) : wpAnyT P md ops Q C t (fuel + 1) listed a w :=
  ⟨fun h0 => absurd (hr ▸ h0) hne, hr ▸ h⟩

theorem T_of_reads {g : Nat} {L : Array Bool → Act → Prop} (hC : C w) (hL : ∀ listed a, L listed a → wpAnyT P md ops Q C t g listed a w) :
    ∀ (f : Nat) (listed : Array Bool) (a : Act), wpReads P md ops w L f listed a → wpAnyT P md ops Q C t (f + g) listed a w
  | 0, listed, a, h => by rw [Nat.zero_add]; exact hL _ _ h
  | f + 1, listed, a, h => by
    rw [Nat.add_right_comm]
    exact ⟨fun h0 => absurd h0 h.1, fun i hi => wpOp_of_stOp (fun a' h' => ⟨fun _ => hC, T_of_reads hC hL f _ a' h'⟩) (h.2 i hi)⟩

/-- Five operations, one behind the other; C behind the first two. -/
def tail5 (P : Program) (ops : Array Oper) (Q : Exit → Act → World → Prop) (C : World → Prop) (n : Nat) (a : Act) (w : World) : Prop :=
  wpOp P ops Q n (fun a w => C w ∧ wpOp P ops Q (n + 1) (fun a w => C w ∧ wpOp P ops Q (n + 2) (fun a w => wpOp P ops Q (n + 3) (fun a w => wpOp P ops Q (n + 4) (fun a w => Q .normal a w) a w) a w) a w) a w) a w

theorem T_of_tail5 {n : Nat} {listed : Array Bool} {a : Act} (hB : Region.seqB md ops 5 n listed = true) (hs : n + 5 ≤ listed.size) (h : tail5 P ops Q C n a w) : wpAnyT P md ops Q C (n + 2) 5 listed a w := by
  simp only [Region.seqB, Bool.and_eq_true, decide_eq_true_eq, List.isEmpty_iff] at hB
  obtain ⟨h1, h2, h3, h4, h5, h6⟩ := hB
  have on : ∀ (L : Array Bool) (i : Nat), i < L.size → (L.setIfInBounds i true).getD i true = true := fun L i hi => by simp [hi]
  refine wpAnyT_all h1 (by simp) (fun i hi => ?_)
  obtain rfl : i = n := by simpa using hi
  refine wpOp_mono (fun a w ⟨hc, h⟩ => ⟨fun _ => hc, ?_⟩) h
  refine wpAnyT_all h2 (by simp) (fun j hj => ?_)
  obtain rfl : j = i + 1 := by simpa using hj
  refine wpOp_mono (fun a w ⟨hc, h⟩ => ⟨fun _ => hc, ?_⟩) h
  refine wpAnyT_all h3 (by simp) (fun j hj => ?_)
  obtain rfl : j = i + 1 + 1 := by simpa using hj
  refine wpOp_mono (fun a w h => ⟨fun e => ?_, ?_⟩) h
  · rw [on _ _ (by simp; omega)] at e; cases e
  refine wpAnyT_all h4 (by simp) (fun j hj => ?_)
  obtain rfl : j = i + 1 + 1 + 1 := by simpa using hj
  refine wpOp_mono (fun a w h => ⟨fun e => ?_, ?_⟩) h
  · rw [getD_set_ne true (by omega), on _ _ (by simp; omega)] at e; cases e
  refine wpAnyT_all h5 (by simp) (fun j hj => ?_)
  obtain rfl : j = i + 1 + 1 + 1 + 1 := by simpa using hj
  refine wpOp_mono (fun a w h => ⟨fun e => ?_, h6, h⟩) h
  rw [getD_set_ne true (by omega), getD_set_ne true (by omega), on _ _ (by simp; omega)] at e
  cases e

def earlyB (md : Region.Mode) (ops : Array Oper) (t : Nat) : List Nat → Array Bool → Bool
  | [], _ => true
  | i :: is, listed => (Region.ready md ops listed).contains i && Region.free md ops listed i && decide (i ≠ t) && Region.waitsFor md ops t i && !(listed.getD t true) && earlyB md ops t is (listed.setIfInBounds i true)

def wpEarly (P : Program) (ops : Array Oper) (C : World → Prop) (Lq : Act → Prop) : List Oper → Act → Prop
  | [], a => Lq a
  | o :: rest, a => ∃ v, YieldsIf P ops C o v a ∧ wpEarly P ops C Lq rest (a.put o.dst v)

theorem early_take {g : Nat} (hsel : Region.noSelect ops = true) (hQ : ∀ d v c a w, Q (.panic c) (Act.put a d v) w → Q (.panic c) a w) (hC : C w) :
    ∀ (is : List Nat) (l : List Oper) (listed : Array Bool) (a : Act), is.map (fun k => ops[k]?) = l.map some → earlyB md ops t is listed = true →
      wpEarly P ops C (fun a' => wpAnyT P md ops Q C t g (is.foldl (fun L i => L.setIfInBounds i true) listed) a' w) l a → wpAnyT P md ops Q C t (is.length + g) listed a w
  | [], l, listed, a, hl, _, h => by
    obtain rfl : l = [] := by simpa using hl.symm
    rw [List.length_nil, Nat.zero_add]
    exact h
  | i :: is, l, listed, a, hl, hB, h => by
    cases l with
    | nil => simp at hl
    | cons o l =>
      simp only [List.map_cons, List.cons.injEq] at hl
      obtain ⟨h0, hl⟩ := hl
      simp only [earlyB, Bool.and_eq_true, decide_eq_true_eq, Bool.not_eq_true'] at hB
      obtain ⟨⟨⟨⟨⟨hr, hf⟩, hne⟩, hw⟩, ht⟩, hB'⟩ := hB
      obtain ⟨v, hy, h⟩ := h
      have := early_take hsel hQ hC is l (listed.setIfInBounds i true) (a.put o.dst v) hl hB' h
      rw [List.length_cons, Nat.add_right_comm]
      exact wpAnyT_first h0 (Region.noSelect_spec hsel) (hQ o.dst v) hne hw _ listed a w (Region.free_spec h0 hf) (by simpa using hr) ht hy hC this

theorem early_closed : ∀ (is : List Nat) (listed : Array Bool), Closed md ops listed → earlyB md ops t is listed = true → Closed md ops (is.foldl (fun L i => L.setIfInBounds i true) listed)
  | [], _, h, _ => h
  | i :: is, listed, h, hB => by
    simp only [earlyB, Bool.and_eq_true] at hB
    exact early_closed is _ (h.set (by simpa using hB.1.1.1.1.1)) hB.2

theorem early_mono {Lq Lq' : Act → Prop} (hh : ∀ a, Lq a → Lq' a) : ∀ (l : List Oper) (a : Act), wpEarly P ops C Lq l a → wpEarly P ops C Lq' l a
  | [], a, h => hh a h
  | _ :: l, _, ⟨v, hy, h⟩ => ⟨v, hy, early_mono hh l _ h⟩

theorem wpEarly_nil {Lq : Act → Prop} {a : Act} (h : Lq a) : wpEarly P ops C Lq [] a := h
theorem wpEarly_value (d : Tmp) {Lq : Act → Prop} {a : Act} {o : Oper} {rest : List Oper} {v : Value} (hd : o.dst = some d) (hg : Region.wanted o (yielded ops a.tmps) = true) (hrun : ∀ W, C W → (execOp a.eval o).run P W = .ok (.value v) W) (h : wpEarly P ops C Lq rest (a.put (some d) v)) : wpEarly P ops C Lq (o :: rest) a :=
  ⟨v, .inl ⟨hg, hrun⟩, by rw [hd]; exact h⟩

def appB (ops : Array Oper) (k n : Nat) : Bool :=
  Region.noSelect ops && decide (k ≤ n) && decide (ops.size = n + 5) && earlyB .any ops (n + 2) (List.range k) (Array.replicate ops.size false) &&
  lexR .any ops ((List.range ops.size).map (fun i => decide (i < n))).toArray ((List.range (n - k)).map (· + k)) ((List.range k).foldl (fun L i => L.setIfInBounds i true) (Array.replicate ops.size false)) &&
  Region.seqB .any ops 5 n ((List.range ops.size).map (fun i => decide (i < n))).toArray

theorem wp_region_app {id : Nat} {a : Act} {l : List Oper} (k n : Nat) (C : World → Prop) (hm : P.follows .mixedOrders = true) (hB : appB l.toArray k n = true) (hQ : ∀ d v c a w, Q (.panic c) (Act.put a d v) w → Q (.panic c) a w) (hC : C w.drew)
    (h : wpEarly P l.toArray C (fun a' => wpStill P l.toArray w.drew (fun a'' => tail5 P l.toArray Q C n a'' w.drew) ((l.drop k).take (n - k)) a') (l.take k) a) : (Code.region id l.toArray true).wp P Q a w := by
  simp only [appB, Bool.and_eq_true, decide_eq_true_eq] at hB
  obtain ⟨⟨⟨⟨⟨hsel, hkn⟩, hsz⟩, he⟩, hlex⟩, hseq⟩ := hB
  have hlen : l.length = n + 5 := by simpa using hsz
  refine wp_region_any hm (wpAny_of_T (C := C) (t := n + 2) _ _ _ _ ?_)
  rw [show l.toArray.size = (List.range k).length + ((n - k) + 5) by simp; omega]
  have hc0 : Closed .any l.toArray (Array.replicate l.toArray.size false) := fun j oj hj hl e he hb => by
    rw [getD_replicate_false] at hl
    cases hl
  have hcl := early_closed (List.range k) _ hc0 he
  rw [show Array.replicate ((List.range k).length + ((n - k) + 5)) false = Array.replicate l.toArray.size false by congr 1; simp; omega]
  refine early_take (w := w.drew) hsel hQ hC (List.range k) (l.take k) _ a ?_ he ?_
  · apply List.ext_getElem?
    intro i
    by_cases hi : i < k
    · simp [hi, List.getElem?_eq_getElem (show i < l.length by omega)]
    · simp [hi, List.getElem?_take]
  · refine early_mono (fun a' h' => ?_) _ _ h
    have H := reads_lex (P := P) (w := w.drew) hsel ((List.range (n - k)).map (· + k)) ((l.drop k).take (n - k)) _ a' (by
      apply List.ext_getElem?
      intro i
      by_cases hi : i < n - k
      · simp [hi, List.getElem?_eq_getElem (show k + i < l.length by omega), Nat.add_comm i k]
      · simp [hi, List.getElem?_take]) hcl hlex h'
    have K := T_of_reads (Q := Q) (g := 5) hC (fun listed a' hL => by
      obtain ⟨rfl, hL⟩ := hL
      exact T_of_tail5 hseq (by simp; omega) hL) _ _ _ H
    simpa using K

/-- Six operations, one behind the other; C behind the first three. -/
def tail6 (P : Program) (ops : Array Oper) (Q : Exit → Act → World → Prop) (C : World → Prop) (n : Nat) (a : Act) (w : World) : Prop :=
  wpOp P ops Q n (fun a w => C w ∧ wpOp P ops Q (n + 1) (fun a w => C w ∧ wpOp P ops Q (n + 2) (fun a w => C w ∧ wpOp P ops Q (n + 3) (fun a w => wpOp P ops Q (n + 4) (fun a w => wpOp P ops Q (n + 5) (fun a w => Q .normal a w) a w) a w) a w) a w) a w) a w

theorem T_of_tail6 {n : Nat} {listed : Array Bool} {a : Act} (hB : Region.seqB md ops 6 n listed = true) (hs : n + 6 ≤ listed.size) (h : tail6 P ops Q C n a w) : wpAnyT P md ops Q C (n + 3) 6 listed a w := by
  simp only [Region.seqB, Bool.and_eq_true, decide_eq_true_eq, List.isEmpty_iff] at hB
  obtain ⟨h1, h2, h3, h4, h5, h6, h7⟩ := hB
  have on : ∀ (L : Array Bool) (i : Nat), i < L.size → (L.setIfInBounds i true).getD i true = true := fun L i hi => by simp [hi]
  refine wpAnyT_all h1 (by simp) (fun i hi => ?_)
  obtain rfl : i = n := by simpa using hi
  refine wpOp_mono (fun a w ⟨hc, h⟩ => ⟨fun _ => hc, ?_⟩) h
  refine wpAnyT_all h2 (by simp) (fun j hj => ?_)
  obtain rfl : j = i + 1 := by simpa using hj
  refine wpOp_mono (fun a w ⟨hc, h⟩ => ⟨fun _ => hc, ?_⟩) h
  refine wpAnyT_all h3 (by simp) (fun j hj => ?_)
  obtain rfl : j = i + 1 + 1 := by simpa using hj
  refine wpOp_mono (fun a w ⟨hc, h⟩ => ⟨fun _ => hc, ?_⟩) h
  refine wpAnyT_all h4 (by simp) (fun j hj => ?_)
  obtain rfl : j = i + 1 + 1 + 1 := by simpa using hj
  refine wpOp_mono (fun a w h => ⟨fun e => ?_, ?_⟩) h
  · rw [on _ _ (by simp; omega)] at e; cases e
  refine wpAnyT_all h5 (by simp) (fun j hj => ?_)
  obtain rfl : j = i + 1 + 1 + 1 + 1 := by simpa using hj
  refine wpOp_mono (fun a w h => ⟨fun e => ?_, ?_⟩) h
  · rw [getD_set_ne true (by omega), on _ _ (by simp; omega)] at e; cases e
  refine wpAnyT_all h6 (by simp) (fun j hj => ?_)
  obtain rfl : j = i + 1 + 1 + 1 + 1 + 1 := by simpa using hj
  refine wpOp_mono (fun a w h => ⟨fun e => ?_, h7, h⟩) h
  rw [getD_set_ne true (by omega), getD_set_ne true (by omega), on _ _ (by simp; omega)] at e
  cases e

def lateB (ops : Array Oper) (es rs : List Nat) (n : Nat) : Bool :=
  Region.noSelect ops && decide (es.length + rs.length = n) && decide (ops.size = n + 6) && es.all (fun k => decide (k < ops.size)) && rs.all (fun k => decide (k < ops.size)) && earlyB .any ops (n + 3) es (Array.replicate ops.size false) &&
  lexR .any ops ((List.range ops.size).map (fun i => decide (i < n))).toArray rs (es.foldl (fun L i => L.setIfInBounds i true) (Array.replicate ops.size false)) &&
  Region.seqB .any ops 6 n ((List.range ops.size).map (fun i => decide (i < n))).toArray

theorem picked (l : List Oper) : ∀ (ks : List Nat), ks.all (fun k => decide (k < l.toArray.size)) = true → ks.map (fun k => l.toArray[k]?) = (ks.filterMap (fun k => l[k]?)).map some
  | [], _ => rfl
  | k :: ks, h => by
    simp only [List.all_cons, Bool.and_eq_true, decide_eq_true_eq] at h
    have hk : k < l.length := by simpa using h.1
    have ih := picked l ks h.2
    simp only [List.map_cons, List.filterMap_cons, List.getElem?_eq_getElem hk, List.getElem?_toArray] at ih ⊢
    rw [ih]

/-- Two stores, one behind the other; the operations es, that the first does not wait for, are taken ahead. -/
theorem wp_region_late {id : Nat} {a : Act} {l : List Oper} (es rs : List Nat) (n : Nat) (C : World → Prop) (hm : P.follows .mixedOrders = true) (hB : lateB l.toArray es rs n = true) (hQ : ∀ d v c a w, Q (.panic c) (Act.put a d v) w → Q (.panic c) a w) (hC : C w.drew)
    (h : wpEarly P l.toArray C (fun a' => wpStill P l.toArray w.drew (fun a'' => tail6 P l.toArray Q C n a'' w.drew) (rs.filterMap (fun k => l[k]?)) a') (es.filterMap (fun k => l[k]?)) a) : (Code.region id l.toArray true).wp P Q a w := by
  simp only [lateB, Bool.and_eq_true, decide_eq_true_eq] at hB
  obtain ⟨⟨⟨⟨⟨⟨⟨hsel, hkn⟩, hsz⟩, hes⟩, hrs⟩, he⟩, hlex⟩, hseq⟩ := hB
  refine wp_region_any hm (wpAny_of_T (C := C) (t := n + 3) _ _ _ _ ?_)
  rw [show l.toArray.size = es.length + (rs.length + 6) by omega]
  have hc0 : Closed .any l.toArray (Array.replicate l.toArray.size false) := fun j oj hj hl e he hb => by
    rw [getD_replicate_false] at hl
    cases hl
  have hcl := early_closed es _ hc0 he
  rw [show Array.replicate (es.length + (rs.length + 6)) false = Array.replicate l.toArray.size false by congr 1; omega]
  refine early_take (w := w.drew) hsel hQ hC es (es.filterMap (fun k => l[k]?)) _ a (picked l es hes) he ?_
  refine early_mono (fun a' h' => ?_) _ _ h
  have H := reads_lex (P := P) (w := w.drew) hsel rs (rs.filterMap (fun k => l[k]?)) _ a' (picked l rs hrs) hcl hlex h'
  exact T_of_reads (Q := Q) (g := 6) hC (fun listed a' hL => by
    obtain ⟨rfl, hL⟩ := hL
    exact T_of_tail6 hseq (by simp at hsz ⊢; omega) hL) _ _ _ H
end

end Go.Proofs.YbulkbdskDoor
