/-
  What a put carries through: the announce, the box of the time; steps over drawn regions that only read.
-/
import Derived.Test.YbulkbdskDoorPlay
import Derived.BigQuiet
import Derived.Deep.CutRange
namespace Go.Proofs.YbulkbdskDoor
open Go Go.RowKit

def tcell (s : Nat) (k : Nat) : Value := if k = 0 then .int .u64 (s : Int) else if k = 1 then .int .i64 0 else .pointer none

structure En (w W : World) (g ab tx id port s : Nat) (dn ev : Bool) : Prop where
  fr : Fr g TY w W
  ann : W.rowIs ab 54 83 (acell id port dn ev)
  tim : W.rowIs tx 57 3 (tcell s)

theorem En.go {w W W' : World} {g ab tx id port s : Nat} {dn ev : Bool} (h : En w W g ab tx id port s dn ev) (hF : Fr g TY W W') : En w W' g ab tx id port s dn ev :=
  ⟨h.fr.trans hF, hF.row h.ann (by decide), hF.row h.tim (by decide)⟩

theorem frN {g : Nat} {W W' : World} (h : Turn [] W W') : Fr g TY W W' := Fr.ofTurn h (by simp) (by simp)

theorem St.new {w w' : World} {g n dl : Nat} {v : Value} {pf : Nat → Peer} (h : St w g v pf n dl) (hT : Turn [] w w') : St w' g v pf n dl := by
  obtain ⟨tf, fi, fe, hv, T, hli, hle⟩ := h
  exact ⟨tf, fi, fe, hv, T.new hT, hli, hle⟩

theorem Det.new {w w' : World} {g m i dl : Nat} {v : Value} {pf : Nat → Peer} (h : Det w g v pf m i dl) (hT : Turn [] w w') : Det w' g v pf m i dl := by
  obtain ⟨hi, tf, fi, fe, nbd, hv, T, hli, hle, hc⟩ := h
  exact ⟨hi, tf, fi, fe, nbd, hv, T.new hT, hli, hle, hc⟩

theorem drewN_row {w : World} {b t n : Nat} {f : Nat → Value} (h : w.rowIs b t n f) (m : Nat) : (w.drewN m).rowIs b t n f := h

section
variable {P : Program} {ops : Array Oper} {w : World}
/-- An operation of a quiet region, by its own law. -/
theorem wpQuiet_value (d : Tmp) {Lq : Act → Prop} {a : Act} {o : Oper} {rest : List Oper} {v : Value} (hd : o.dst = some d) (hg : Region.wanted o (yielded ops a.tmps) = true) (hrun : ∀ n, (execOp a.eval o).run P (w.drewN n) = .ok (.value v) (w.drewN n))
    (h : wpQuiet P ops (fun w' => ∃ n, w' = w.drewN n) Lq rest (a.put (some d) v)) : wpQuiet P ops (fun w' => ∃ n, w' = w.drewN n) Lq (o :: rest) a := by
  refine BigFrame.wpQuiet_want hg (fun K hK => ⟨v, fun w' hw' => ?_, ?_⟩)
  · obtain ⟨n, rfl⟩ := hw'
    unfold Oper.quietAt
    rw [hrun n]
    exact ⟨rfl, rfl⟩
  · rw [hd]
    exact hK _ h
end

/-- The endpoint in the map. -/
theorem St.ep {w : World} {g n dl port : Nat} {v : Value} {pf : Nat → Peer} (h : St w g v pf n dl) (hp : port < 3) :
    (∃ j, j < n ∧ (pf j).port = port ∧ ∀ m, (Instr.lookup 72 (.map (some (g + 2))) (epV port) true).run Ybad.prog (w.drewN m) = .ok (.tuple #[.int .i64 (j : Int), .bool true]) (w.drewN m)) ∨
    ((∀ j, j < n → (pf j).port ≠ port) ∧ ∀ m, (Instr.lookup 72 (.map (some (g + 2))) (epV port) true).run Ybad.prog (w.drewN m) = .ok (.tuple #[.int .i64 0, .bool false]) (w.drewN m)) := by
  obtain ⟨tf, fi, fe, hv, T, hli, hle⟩ := h
  have l := fun m => ((T.me.turn ((Turn.refl [] w).drewN m) (by simp)).look eps_ok Ybad.underlying72 (zero3 _) hp).2
  cases hf : fe port with
  | none =>
    rw [hf] at l
    refine .inr ⟨fun j hj e => ?_, l⟩
    have := hle.1 j hj
    rw [e, hf] at this
    cases this
  | some x =>
    rw [hf] at l
    obtain ⟨j, hj, rfl, e⟩ := hle.2 _ _ hf
    exact .inl ⟨j, hj, e, l⟩

theorem St.id {w : World} {g n dl id : Nat} {v : Value} {pf : Nat → Peer} (h : St w g v pf n dl) (hp : id < 4) :
    (∃ j, j < n ∧ (pf j).id = id ∧ ∀ m, (Instr.lookup 71 (.map (some (g + 1))) (idV id) true).run Ybad.prog (w.drewN m) = .ok (.tuple #[.int .i64 (j : Int), .bool true]) (w.drewN m)) ∨
    ((∀ j, j < n → (pf j).id ≠ id) ∧ ∀ m, (Instr.lookup 71 (.map (some (g + 1))) (idV id) true).run Ybad.prog (w.drewN m) = .ok (.tuple #[.int .i64 0, .bool false]) (w.drewN m)) := by
  obtain ⟨tf, fi, fe, hv, T, hli, hle⟩ := h
  have l := fun m => ((T.mi.turn ((Turn.refl [] w).drewN m) (by simp)).look ids_ok Ybad.underlying71 (zero3 _) hp).2
  cases hf : fi id with
  | none =>
    rw [hf] at l
    refine .inr ⟨fun j hj e => ?_, l⟩
    have := hli.1 j hj
    rw [e, hf] at this
    cases this
  | some x =>
    rw [hf] at l
    obtain ⟨j, hj, rfl, e⟩ := hli.2 _ _ hf
    exact .inl ⟨j, hj, e, l⟩

theorem St.cells {w : World} {g n dl : Nat} {v : Value} {pf : Nat → Peer} (h : St w g v pf n dl) : w.cell? ⟨g + 4, 0, none⟩ = some v ∧ w.cell? ⟨g + 4, 8, none⟩ = some (.map (some (g + 1))) ∧ w.cell? ⟨g + 4, 9, none⟩ = some (.map (some (g + 2))) ∧ w.cell? ⟨g + 4, 16, none⟩ = some (.map (some g)) ∧ (∀ k, w.frozen? ⟨g + 4, k, none⟩ = false) ∧ n ≤ 3 := by
  obtain ⟨tf, fi, fe, hv, T, hli, hle⟩ := h
  exact ⟨by rw [T.row.cell (by omega), hv], by rw [T.row.cell (by omega), T.t8], by rw [T.row.cell (by omega), T.t9], by rw [T.row.cell (by omega), T.t16], fun k => T.row.frozen k, T.small⟩

theorem St.slot {w : World} {g n dl : Nat} {v : Value} {pf : Nat → Peer} (h : St w g v pf n dl) (hn : 0 < n) : ∃ pb cap F, Slot w (g + 4) v n pb cap F pf ∧ v = .slice (some ⟨pb, 0, none⟩) n cap ∧ n ≤ cap := by
  obtain ⟨tf, fi, fe, rfl, T, hli, hle⟩ := h
  obtain ⟨pb, cap, F, S⟩ := T.ps.slot hn
  exact ⟨pb, cap, F, S, S.val, S.room⟩

theorem St.form {w : World} {g n dl : Nat} {v : Value} {pf : Nat → Peer} (h : St w g v pf n dl) : ∃ ao cap, v = .slice ao n cap := by
  obtain ⟨tf, fi, fe, rfl, T, hli, hle⟩ := h
  exact T.ps.form

theorem St.ok {w : World} {g n dl : Nat} {v : Value} {pf : Nat → Peer} (h : St w g v pf n dl) : ∀ j, j < n → (pf j).id < 4 ∧ (pf j).port < 3 ∧ (pf j).s < 1024 := by
  obtain ⟨tf, fi, fe, rfl, T, hli, hle⟩ := h
  exact T.ok

end Go.Proofs.YbulkbdskDoor
