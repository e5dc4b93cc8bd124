/-
  Reads of a still walk by the quick steps of a quiet one; small laws for the law's round.
-/
import Derived.Test.YbulkbdskDoorRound
namespace Go.Proofs.YbulkbdskDoor
open Go Go.RowKit

section
variable {P : Program} {ops : Array Oper} {w : World}
theorem still_of_quiet {Lq : Act → Prop} : ∀ (l : List Oper) (a : Act), wpQuiet P ops (fun w' => w' = w) Lq l a → wpStill P ops w Lq l a
  | [], _, h => h
  | o :: l, a, h => by
    unfold wpQuiet at h
    unfold wpStill
    by_cases hw : Region.wanted o (yielded ops a.tmps) = true
    · rw [if_pos hw] at h ⊢
      obtain ⟨v, h1, h2⟩ := h
      have h1 := h1 w rfl
      have h2 := still_of_quiet l _ h2
      unfold Oper.quietAt at h1
      unfold Oper.still
      cases hr : (execOp a.eval o).run P w with
      | ok n w' =>
        rw [hr] at h1
        cases n with
        | value u =>
          obtain ⟨rfl, rfl⟩ := h1
          exact ⟨rfl, h2⟩
        | skip =>
          obtain ⟨rfl, rfl⟩ := h1
          exact ⟨rfl, h2⟩
        | enter f args =>
          obtain ⟨rfl, h1⟩ := h1
          exact ⟨rfl, v, h1, h2⟩
        | _ => exact h1.elim
      | halt x w' =>
        rw [hr] at h1
        exact h1.elim
    · rw [if_neg hw] at h ⊢
      exact still_of_quiet l _ h

/-- An operation of a quiet region in the one world, by its own law. -/
theorem wpQuiet_one (d : Tmp) {Lq : Act → Prop} {a : Act} {o : Oper} {rest : List Oper} {v : Value} (hd : o.dst = some d) (hg : Region.wanted o (yielded ops a.tmps) = true) (hrun : (execOp a.eval o).run P w = .ok (.value v) w)
    (h : wpQuiet P ops (fun w' => w' = w) Lq rest (a.put (some d) v)) : wpQuiet P ops (fun w' => w' = w) Lq (o :: rest) a := by
  refine BigFrame.wpQuiet_want hg (fun K hK => ⟨v, fun w' hw' => ?_, ?_⟩)
  · subst hw'
    unfold Oper.quietAt
    rw [hrun]
    exact ⟨rfl, rfl⟩
  · rw [hd]
    exact hK _ h
end

section
variable {P : Program} {ops : Array Oper} {w w' : World} {Q : Exit → Act → World → Prop}
/-- An operation of a plain region by an equation on its run. -/
theorem wpList_value (d : Tmp) {a : Act} {o : Oper} {rest : List Oper} {v : Value} (hd : o.dst = some d) (hg : o.guard = none) (hrun : (execOp a.eval o).run P w = .ok (.value v) w') (h : wpList P ops Q rest (a.put (some d) v) w') : wpList P ops Q (o :: rest) a w := by
  refine wpList_plain hg fun K hK => ?_
  unfold Oper.wp
  rw [hrun]
  unfold Oper.upon
  rw [hd]
  exact hK _ _ h
theorem wpList_void {a : Act} {o : Oper} {rest : List Oper} (hd : o.dst = none) (hg : o.guard = none) (hrun : (execOp a.eval o).run P w = .ok .skip w') (h : wpList P ops Q rest a w') : wpList P ops Q (o :: rest) a w := by
  refine wpList_plain hg fun K hK => ?_
  unfold Oper.wp
  rw [hrun]
  unfold Oper.upon
  rw [hd]
  exact hK _ _ h
end

theorem updB_updB (f : Nat → Bool) (i : Nat) (x y : Bool) : updB (updB f i x) i y = updB f i y := by
  funext j
  unfold updB
  by_cases e : j = i
  · rw [if_pos e, if_pos e]
  · rw [if_neg e, if_neg e, if_neg e]
theorem updB_id (f : Nat → Bool) (i : Nat) (x : Bool) (h : f i = x) : updB f i x = f := by
  funext j
  unfold updB
  by_cases e : j = i
  · rw [if_pos e, e, h]
  · rw [if_neg e]
theorem updB_at (f : Nat → Bool) (i : Nat) (x : Bool) : updB f i x i = x := if_pos rfl

theorem sum4_succ (P : Nat → Bool) (m : Nat) : sum4 P (m + 1) = sum4 P m + (if P m then 1 else 0) := rfl
theorem sum4_le (P : Nat → Bool) : ∀ m, sum4 P m ≤ m
  | 0 => Nat.le_refl _
  | m + 1 => by
    have := sum4_le P m
    rw [sum4_succ]
    split <;> omega

theorem St.inj {W : World} {g n dl : Nat} {v : Value} {pf : Nat → Peer} (h : St W g v pf n dl) : ∀ x y, x < n → y < n → (pf x).id = (pf y).id → x = y := by
  obtain ⟨tf, fi, fe, _, _, hli, _⟩ := h
  exact fun x y hx hy => hli.inj hx hy

theorem St.idAt {w : World} {g n dl j : Nat} {v : Value} {pf : Nat → Peer} (h : St w g v pf n dl) (hj : j < n) (m : Nat) : (Instr.lookup 71 (.map (some (g + 1))) (idV (pf j).id) true).run Ybad.prog (w.drewN m) = .ok (.tuple #[.int .i64 (j : Int), .bool true]) (w.drewN m) := by
  obtain ⟨tf, fi, fe, hv, T, hli, hle⟩ := h
  have l := ((T.mi.turn ((Turn.refl [] w).drewN m) (by simp)).look ids_ok Ybad.underlying71 (zero3 _) (T.ok j hj).1).2
  rw [hli.1 j hj] at l
  exact l
theorem St.epAt {w : World} {g n dl j : Nat} {v : Value} {pf : Nat → Peer} (h : St w g v pf n dl) (hj : j < n) (m : Nat) : (Instr.lookup 72 (.map (some (g + 2))) (epV (pf j).port) true).run Ybad.prog (w.drewN m) = .ok (.tuple #[.int .i64 (j : Int), .bool true]) (w.drewN m) := by
  obtain ⟨tf, fi, fe, hv, T, hli, hle⟩ := h
  have l := ((T.me.turn ((Turn.refl [] w).drewN m) (by simp)).look eps_ok Ybad.underlying72 (zero3 _) (T.ok j hj).2.1).2
  rw [hle.1 j hj] at l
  exact l

theorem len_map {kv : Nat → Value} {N : Nat} {q : IntKind} {W : World} {b n : Nat} {f : Nat → Option Int} {t k e : TypeId} (h : FM kv N q W b f n) (ht : Ybad.prog.underlying t = some (.map k e)) (ty : TypeId) : (Builtin.len_ #[t] ty #[.map (some b)]).run Ybad.prog W = .ok (.int .i64 (n : Int)) W := by
  obtain ⟨es, clock, hm, _, _, _, hs⟩ := h
  subst hs
  simp [Builtin.len_, run_underlying ht, MapKept.run_getObj_map hm, goInt, Result.andThen]

end Go.Proofs.YbulkbdskDoor
