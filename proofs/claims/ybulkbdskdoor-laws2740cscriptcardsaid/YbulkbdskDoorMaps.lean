/-
  A map keyed by a few known keys: what it holds, as a function of the key's number; a look-up, a store, a delete, len.
-/
import Derived.Test.YbulkbdskDoorMem
import Derived.Maps.OwnSet
namespace Go.Proofs.YbulkbdskDoor
open Go Go.RowKit Go.ChangeMaps

/-- The keys kv 0, .., kv (N - 1) of type k. -/
structure KeyOK (P : Program) (k : TypeId) (kv : Nat → Value) (N : Nat) : Prop where
  inj : ∀ i j, i < N → j < N → kv i = kv j → i = j
  check : ∀ (w : World) (em : Bool) i, i < N → (Instr.checkKey em 10000 k (kv i)).run P w = .ok () w
  stays : ∀ (w : World) i, i < N → (Instr.keyThatStays (kv i) (kv i)).run P w = .ok (kv i) w
  find : ∀ (w : World) i, i < N → ∀ es : List MapEntry, (∀ e ∈ es, ∃ j, j < N ∧ e.key = kv j) →
    ((Instr.findKey k (kv i) es).run P w = .ok none w ∧ ∀ e ∈ es, e.key ≠ kv i) ∨ ∃ j e, (Instr.findKey k (kv i) es).run P w = .ok (some (j, e.val)) w ∧ es[j]? = some e ∧ e.key = kv i

/-- Keys of a struct or an array type: by their comparisons. -/
theorem find_of {P : Program} {k : TypeId} {kv : Nat → Value} {N : Nat} {d : TypeDesc} (hu : P.underlying k = some d) (hn : ∀ x y, Instr.sameNow d (kv x) (kv y) = none)
    (heq : ∀ (w : World) i j, i < N → j < N → (Op.equal k (kv i) (kv j)).run P w = .ok (decide (i = j)) w) (hinj : ∀ i j, i < N → j < N → kv i = kv j → i = j)
    (w : World) (i : Nat) (hi : i < N) (es : List MapEntry) (hes : ∀ e ∈ es, ∃ j, j < N ∧ e.key = kv j) :
    ((Instr.findKey k (kv i) es).run P w = .ok none w ∧ ∀ e ∈ es, e.key ≠ kv i) ∨ ∃ j e, (Instr.findKey k (kv i) es).run P w = .ok (some (j, e.val)) w ∧ es[j]? = some e ∧ e.key = kv i := by
  have ask : ∀ (es : List MapEntry) (c : Nat), (∀ e ∈ es, ∃ j, j < N ∧ e.key = kv j) →
      ((Instr.findAsking k (kv i) es c).run P w = .ok none w ∧ ∀ e ∈ es, e.key ≠ kv i) ∨ ∃ j e, (Instr.findAsking k (kv i) es c).run P w = .ok (some (c + j, e.val)) w ∧ es[j]? = some e ∧ e.key = kv i := by
    intro es
    induction es with
    | nil => intro c _; exact .inl ⟨by simp [Instr.findAsking], by simp⟩
    | cons e es ih =>
      intro c hes
      obtain ⟨j, hj, hk⟩ := hes e (by simp)
      have h1 := heq w i j hi hj
      by_cases e1 : i = j
      · subst e1
        refine .inr ⟨0, e, ?_, by simp, hk⟩
        rw [Instr.findAsking, hk]
        simp [h1, Result.andThen]
      · have hne : kv j ≠ kv i := fun h => e1 (hinj j i hj hi h).symm
        rcases ih (c + 1) (fun e he => hes e (by simp [he])) with ⟨h2, h3⟩ | ⟨j', e', h2, h3, h4⟩
        · refine .inl ⟨?_, fun e' he' => ?_⟩
          · rw [Instr.findAsking, hk]
            simp [h1, Result.andThen, e1, h2]
          · rcases List.mem_cons.1 he' with rfl | he'
            · rw [hk]; exact hne
            · exact h3 e' he'
        · refine .inr ⟨j' + 1, e', ?_, by simpa using h3, h4⟩
          rw [Instr.findAsking, hk]
          simp [h1, Result.andThen, e1, h2]
          omega
  have now : es ≠ [] → Instr.findNow d (kv i) es 0 = none := fun hne => by
    cases es with
    | nil => exact absurd rfl hne
    | cons e es =>
      obtain ⟨j, _, hk⟩ := hes e (by simp)
      rw [Instr.findNow, hk, hn]
  by_cases hne : es = []
  · subst hne
    exact .inl ⟨by simp [Instr.findKey, run_underlying hu, Instr.findNow], by simp⟩
  · have hrun : (Instr.findKey k (kv i) es).run P w = (Instr.findAsking k (kv i) es 0).run P w := by
      simp [Instr.findKey, run_underlying hu, now hne]
    rw [hrun]
    rcases ask es 0 hes with h | ⟨j, e, h1, h2, h3⟩
    · exact .inl h
    · exact .inr ⟨j, e, by simpa using h1, h2, h3⟩

/-- Block b is a map of n entries: key number i holds f i. -/
def FM (kv : Nat → Value) (N : Nat) (q : IntKind) (w : World) (b : Nat) (f : Nat → Option Int) (n : Nat) : Prop :=
  ∃ es clock, w.heap[b]? = some (.map es clock) ∧ (∀ e ∈ es.toList, ∃ i v, i < N ∧ e.key = kv i ∧ f i = some v ∧ e.val = .int q v) ∧ (∀ i v, i < N → f i = some v → ∃ e ∈ es.toList, e.key = kv i) ∧
    es.toList.Pairwise (fun x y => x.key ≠ y.key) ∧ es.size = n

section
variable {P : Program} {k e t : TypeId} {kv : Nat → Value} {N : Nat} {q : IntKind} {w w' : World} {b n : Nat} {f : Nat → Option Int}

theorem FM.of (h : FM kv N q w b f n) (hb : ∀ es clock, w.heap[b]? = some (.map es clock) → w'.heap[b]? = some (.map es clock)) : FM kv N q w' b f n := by
  obtain ⟨es, clock, h1, h2⟩ := h
  exact ⟨es, clock, hb _ _ h1, h2⟩
theorem FM.turn {ks : List Nat} (h : FM kv N q w b f n) (ht : Turn ks w w') (hb : b ∉ ks) : FM kv N q w' b f n := h.of (fun _ _ h => ht.obj h hb)
theorem FM.fr {lo : Nat} {T : List TypeId} (h : FM kv N q w b f n) (ht : Fr lo T w w') (hb : b < lo) : FM kv N q w' b f n := h.of (fun _ _ h => ht.block _ _ h (.inl hb))
theorem FM.made (w : World) (kv : Nat → Value) (N : Nat) (q : IntKind) : FM kv N q (w.alloc (.map #[] 0)) w.heap.size (fun _ => none) 0 :=
  ⟨#[], 0, World.alloc_heap_new w _, by simp, by simp, by simp, rfl⟩

theorem FM.look (h : FM kv N q w b f n) (K : KeyOK P k kv N) (ht : P.underlying t = some (.map k e)) (hz : (zeroValue e).run P w = .ok (.int q 0) w) {i : Nat} (hi : i < N) :
    (Instr.lookup t (.map (some b)) (kv i) false).run P w = .ok (.int q ((f i).getD 0)) w ∧ (Instr.lookup t (.map (some b)) (kv i) true).run P w = .ok (.tuple #[.int q ((f i).getD 0), .bool (f i).isSome]) w := by
  obtain ⟨es, clock, hb, h1, h2, h3, h4⟩ := h
  have hk : ∀ e ∈ es.toList, ∃ j, j < N ∧ e.key = kv j := fun e he => by obtain ⟨i, v, a, b, _⟩ := h1 e he; exact ⟨i, a, b⟩
  rcases K.find w i hi es.toList hk with ⟨r, hno⟩ | ⟨j, e0, r, hj, hk0⟩
  · have hf : f i = none := by
      cases hf : f i with
      | none => rfl
      | some v => obtain ⟨e, he, hke⟩ := h2 i v hi hf; exact absurd hke (hno e he)
    rw [hf]
    simp [Instr.lookup, run_underlying ht, MapKept.run_getObj_map hb, K.check w _ i hi, r, hz, Result.andThen]
  · obtain ⟨i', v, hi', hk', hf, hv⟩ := h1 e0 (List.mem_of_getElem? hj)
    obtain rfl : i' = i := K.inj _ _ hi' hi (hk'.symm.trans hk0)
    rw [hf]
    simp [Instr.lookup, run_underlying ht, MapKept.run_getObj_map hb, K.check w _ i' hi, r, hv, Result.andThen]

theorem FM.put (h : FM kv N q w b f n) (K : KeyOK P k kv N) (ht : P.underlying t = some (.map k e)) {i : Nat} (hi : i < N) (v : Int) :
    ∃ w', (Instr.mapUpdate t (.map (some b)) (kv i) (.int q v)).run P w = .ok () w' ∧ Turn [b] w w' ∧ FM kv N q w' b (fun j => if j = i then some v else f j) (if (f i).isSome then n else n + 1) := by
  obtain ⟨es, clock, hb, h1, h2, h3, h4⟩ := h
  have hk : ∀ e ∈ es.toList, ∃ j, j < N ∧ e.key = kv j := fun e he => by obtain ⟨i, v, a, b, _⟩ := h1 e he; exact ⟨i, a, b⟩
  have hT : ∀ o, Turn [b] w (setBlock w b o) := fun o => ⟨rfl, rfl, rfl, by simp [setBlock], fun k _ hn => heap_setBlock_other hb _ (by simpa using hn)⟩
  rcases K.find w i hi es.toList hk with ⟨r, hno⟩ | ⟨j, e0, r, hj, hk0⟩
  · have hf : f i = none := by
      cases hf : f i with
      | none => rfl
      | some v => obtain ⟨e, he, hke⟩ := h2 i v hi hf; exact absurd hke (hno e he)
    refine ⟨setBlock w b (.map (es.push ⟨kv i, .int q v, clock⟩) (clock + 1)), by simp [Instr.mapUpdate, run_underlying ht, MapKept.run_getObj_map hb, K.check w false i hi, r, MapKept.run_setObj_map _ hb, Result.andThen, setBlock], hT _, ?_⟩
    refine ⟨_, _, heap_setBlock_same hb _, fun e he => ?_, fun i' v' hi' hf' => ?_, ?_, by simp [hf, h4]⟩
    · simp only [Array.toList_push, List.mem_append, List.mem_singleton] at he
      rcases he with he | rfl
      · obtain ⟨i', v', a, b, c, d⟩ := h1 e he
        have hne : i' ≠ i := fun e' => hno e he (by rw [b, e'])
        exact ⟨i', v', a, b, (if_neg hne).trans c, d⟩
      · exact ⟨i, v, hi, rfl, by simp, rfl⟩
    · simp only [Array.toList_push, List.mem_append, List.mem_singleton]
      by_cases e' : i' = i
      · subst e'; exact ⟨_, .inr rfl, rfl⟩
      · replace hf' := (if_neg e').symm.trans hf'
        obtain ⟨e, he, hke⟩ := h2 i' v' hi' hf'
        exact ⟨e, .inl he, hke⟩
    · rw [Array.toList_push, List.pairwise_append]
      exact ⟨h3, by simp, fun x hx y hy => by simp at hy; subst hy; exact hno x hx⟩
  · obtain ⟨i', v0, hi', hk', hf, hv⟩ := h1 e0 (List.mem_of_getElem? hj)
    obtain rfl : i' = i := K.inj _ _ hi' hi (hk'.symm.trans hk0)
    have hjl : j < es.size := by have := (List.getElem?_eq_some_iff.1 hj).1; simpa using this
    have hej : es[j]? = some e0 := by simpa using hj
    have hlist : (es.modify j (fun e => { e with key := kv i', val := .int q v })).toList = es.toList.set j { e0 with key := kv i', val := .int q v } := by
      apply List.ext_getElem?
      intro m
      rw [List.getElem?_set, Array.getElem?_toList, Array.getElem?_modify]
      by_cases em : j = m
      · subst em
        rw [if_pos rfl, if_pos rfl, hej, if_pos (by simpa using hjl)]
        rfl
      · rw [if_neg em, if_neg em, Array.getElem?_toList]
    refine ⟨setBlock w b (.map (es.modify j (fun e => { e with key := kv i', val := .int q v })) clock), by simp [Instr.mapUpdate, run_underlying ht, MapKept.run_getObj_map hb, K.check w false i' hi, r, hej, hk0, K.stays w i' hi, MapKept.run_setObj_map _ hb, Result.andThen, setBlock], hT _, ?_⟩
    have hother : ∀ e, e ∈ es.toList.set j { e0 with key := kv i', val := .int q v } → e = { e0 with key := kv i', val := .int q v } ∨ (e ∈ es.toList ∧ e.key ≠ kv i') := fun e he => by
      obtain ⟨m, hm⟩ := List.getElem?_of_mem he
      rw [List.getElem?_set] at hm
      by_cases em : j = m
      · subst em
        simp [hjl] at hm
        exact .inl hm.symm
      · rw [if_neg em] at hm
        refine .inr ⟨List.mem_of_getElem? hm, fun hke => ?_⟩
        obtain ⟨hm1, hm2⟩ := List.getElem?_eq_some_iff.1 hm
        obtain ⟨hj1, hj2⟩ := List.getElem?_eq_some_iff.1 hj
        rcases Nat.lt_or_gt_of_ne em with hlt | hlt
        · have := List.pairwise_iff_getElem.1 h3 j m hj1 hm1 hlt
          rw [hj2, hm2, hk0, hke] at this
          exact this rfl
        · have := List.pairwise_iff_getElem.1 h3 m j hm1 hj1 hlt
          rw [hj2, hm2, hk0, hke] at this
          exact this rfl
    refine ⟨_, _, heap_setBlock_same hb _, fun e he => ?_, fun i2 v2 hi2 hf2 => ?_, ?_, by simp [hf, h4]⟩
    · rw [hlist] at he
      rcases hother e he with rfl | ⟨he, hne⟩
      · exact ⟨i', v, hi, rfl, by simp, rfl⟩
      · obtain ⟨i2, v2, a, b, c, d⟩ := h1 e he
        exact ⟨i2, v2, a, b, (if_neg (fun e' => hne (by rw [b, e']))).trans c, d⟩
    · rw [hlist]
      by_cases e' : i2 = i'
      · subst e'
        exact ⟨{ e0 with key := kv i2, val := .int q v }, List.mem_of_getElem? (i := j) (by rw [List.getElem?_set, if_pos rfl, if_pos (by simpa using hjl)]), rfl⟩
      · replace hf2 := (if_neg e').symm.trans hf2
        obtain ⟨e, he, hke⟩ := h2 i2 v2 hi2 hf2
        obtain ⟨m, hm⟩ := List.getElem?_of_mem he
        have hjm : j ≠ m := fun em => by
          subst em
          rw [hj] at hm
          cases hm
          exact e' (K.inj _ _ hi2 hi (hke.symm.trans hk0))
        exact ⟨e, List.mem_of_getElem? (i := m) (by rw [List.getElem?_set, if_neg hjm]; exact hm), hke⟩
    · rw [hlist]
      rw [List.pairwise_iff_getElem] at h3 ⊢
      have hkeys : ∀ m (hm : m < es.toList.length), ((es.toList.set j { e0 with key := kv i', val := .int q v })[m]'(by simpa using hm)).key = (es.toList[m]).key := fun m hm => by
        rw [List.getElem_set]
        split
        · rename_i em
          subst em
          obtain ⟨_, hj2⟩ := List.getElem?_eq_some_iff.1 hj
          rw [hj2, hk0]
        · rfl
      intro x y hx hy hxy
      rw [hkeys x (by simpa using hx), hkeys y (by simpa using hy)]
      exact h3 x y (by simpa using hx) (by simpa using hy) hxy

theorem FM.del (h : FM kv N q w b f n) (K : KeyOK P k kv N) (ht : P.underlying t = some (.map k e)) {i : Nat} (hi : i < N) (ty : TypeId) :
    ∃ w', (Builtin.delete_ #[t, k] ty #[.map (some b), kv i]).run P w = .ok (.tuple #[]) w' ∧ Turn [b] w w' ∧ FM kv N q w' b (fun j => if j = i then none else f j) (if (f i).isSome then n - 1 else n) := by
  obtain ⟨es, clock, hb, h1, h2, h3, h4⟩ := h
  have hk : ∀ e ∈ es.toList, ∃ j, j < N ∧ e.key = kv j := fun e he => by obtain ⟨i, v, a, b, _⟩ := h1 e he; exact ⟨i, a, b⟩
  have hT : ∀ o, Turn [b] w (setBlock w b o) := fun o => ⟨rfl, rfl, rfl, by simp [setBlock], fun k _ hn => heap_setBlock_other hb _ (by simpa using hn)⟩
  rcases K.find w i hi es.toList hk with ⟨r, hno⟩ | ⟨j, e0, r, hj, hk0⟩
  · have hf : f i = none := by
      cases hf : f i with
      | none => rfl
      | some v => obtain ⟨e, he, hke⟩ := h2 i v hi hf; exact absurd hke (hno e he)
    refine ⟨setBlock w b (.map es clock), by simp [Builtin.delete_, run_underlying ht, MapKept.run_getObj_map hb, K.check w _ i hi, r, MapKept.run_setObj_map _ hb, Result.andThen, setBlock], hT _, es, clock, heap_setBlock_same hb _, fun e he => ?_, fun i' v' hi' hf' => ?_, h3, by simp [hf, h4]⟩
    · obtain ⟨i', v', a, b, c, d⟩ := h1 e he
      exact ⟨i', v', a, b, (if_neg (fun e' => hno e he (by rw [b, e']))).trans c, d⟩
    · by_cases e' : i' = i
      · have hf' := (if_pos e').symm.trans hf'; cases hf'
      · exact h2 i' v' hi' ((if_neg e').symm.trans hf')
  · obtain ⟨i', v0, hi', hk', hf, hv⟩ := h1 e0 (List.mem_of_getElem? hj)
    obtain rfl : i' = i := K.inj _ _ hi' hi (hk'.symm.trans hk0)
    have hjl : j < es.size := by have := (List.getElem?_eq_some_iff.1 hj).1; simpa using this
    have hlist : (es.eraseIdxIfInBounds j).toList = es.toList.eraseIdx j := by
      unfold Array.eraseIdxIfInBounds
      rw [dif_pos hjl]
      simp
    have hsz : (es.eraseIdxIfInBounds j).size = n - 1 := by
      have h5 := congrArg List.length hlist
      rw [List.length_eraseIdx, Array.length_toList, Array.length_toList, if_pos hjl, h4] at h5
      exact h5
    refine ⟨setBlock w b (.map (es.eraseIdxIfInBounds j) clock), by simp [Builtin.delete_, run_underlying ht, MapKept.run_getObj_map hb, K.check w _ i' hi, r, MapKept.run_setObj_map _ hb, Result.andThen, setBlock], hT _, _, _, heap_setBlock_same hb _, fun e he => ?_, fun i2 v2 hi2 hf2 => ?_, ?_, by simp [hf, hsz]⟩
    · rw [hlist] at he
      obtain ⟨m, hm, hem⟩ := List.mem_eraseIdx_iff_getElem?.1 he
      obtain ⟨i2, v2, a, b, c, d⟩ := h1 e (List.mem_of_getElem? hem)
      refine ⟨i2, v2, a, b, (if_neg ?_).trans c, d⟩
      · rintro rfl
        obtain ⟨hm1, hm2⟩ := List.getElem?_eq_some_iff.1 hem
        obtain ⟨hj1, hj2⟩ := List.getElem?_eq_some_iff.1 hj
        rcases Nat.lt_or_gt_of_ne hm with hlt | hlt
        · have := List.pairwise_iff_getElem.1 h3 m j hm1 hj1 hlt
          rw [hj2, hm2, hk0, b] at this
          exact this rfl
        · have := List.pairwise_iff_getElem.1 h3 j m hj1 hm1 hlt
          rw [hj2, hm2, hk0, b] at this
          exact this rfl
    · by_cases e' : i2 = i'
      · have hf2 := (if_pos e').symm.trans hf2; cases hf2
      · replace hf2 := (if_neg e').symm.trans hf2
        obtain ⟨e, he, hke⟩ := h2 i2 v2 hi2 hf2
        obtain ⟨m, hm⟩ := List.getElem?_of_mem he
        rw [hlist]
        refine ⟨e, List.mem_eraseIdx_iff_getElem?.2 ⟨m, fun em => ?_, hm⟩, hke⟩
        subst em
        rw [hj] at hm
        cases hm
        exact e' (K.inj _ _ hi2 hi (hke.symm.trans hk0))
    · rw [hlist]
      exact h3.sublist (List.eraseIdx_sublist _ _)
end

end Go.Proofs.YbulkbdskDoor
