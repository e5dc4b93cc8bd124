/-
  A range over a function that yields nothing, in the plain walk; the iterator 'rings' of an Index whose byKey is nil.
-/
import Derived.Test.YbulkbdskDoorChecked
import Derived.WalkKit
import Derived.WalkSpells
import Derived.WalkLawsBesides
import Derived.RangeFuncRecord
import Derived.BigQuiet
namespace Go.Proofs.YbulkbdskDoor
open Go Go.RowKit

theorem below_putObj {B : Nat} {w W : World} (h : Below B w W) {r : Nat} (hr : B ≤ r) (o : Obj) : Below B w (W.putObj r o) :=
  h.trans ⟨rfl, rfl, rfl, by simp, fun k hk => World.putObj_heap_other (by omega)⟩

/-- The same heap: a draw or more has been taken. -/
structure Same (w w' : World) : Prop where
  os : w'.os = w.os
  tape : w'.tape = w.tape
  output : w'.output = w.output
  heap : w'.heap = w.heap

theorem Same.refl (w : World) : Same w w := ⟨rfl, rfl, rfl, rfl⟩
theorem Same.drew {w w' : World} (h : Same w w') : Same w w'.drew := ⟨h.os, h.tape, h.output, h.heap⟩
theorem Same.drewN {w w' : World} (h : Same w w') (n : Nat) : Same w (w'.drewN n) := ⟨h.os, h.tape, h.output, h.heap⟩
theorem Same.trans {a b c : World} (h : Same a b) (k : Same b c) : Same a c := ⟨k.os.trans h.os, k.tape.trans h.tape, k.output.trans h.output, k.heap.trans h.heap⟩
theorem Same.below {w w' : World} (h : Same w w') (B : Nat) : Below B w w' := ⟨h.os, h.tape, h.output, by rw [h.heap]; exact Nat.le_refl _, fun k _ => by rw [h.heap]⟩

/-- THE STATEMENT, over an iterator that yields nothing and leaves the world as it was. -/
theorem wp_rangeFunc_none {P : Program} {g : Operand} {ps : Array Tmp} {assign body : Code} {Q : Exit → Act → World → Prop} {a : Act} {w : World}
    {gf : Nat} {lb : Array Value} (hg : a.eval g = .func (.func gf) #[] lb) (eg : ∀ args w, (callFunc gf args).run P w = .ok (.enter gf args) w)
    (hit : ∀ (W : World) (y : Value), Below w.heap.size w W → Calls P gf (#[y] ++ lb) W fun e W' => (∃ v, e = .returned v) ∧ Same W W')
    (h : ∀ W, Below w.heap.size w W → W.heap[w.heap.size]? = some (.deferred (some [])) →
      Q .normal { a with defers := { target := .collected w.heap.size, args := #[] } :: a.defers } W) :
    (Code.rangeFunc g ps assign body).wp P Q a w := by
  refine (wpIn_wide (n := 0)).1 (wpIn_rangeFunc ?_)
  intro fn _
  obtain ⟨rec, hrec⟩ : ∃ rec : LoopState → Loop, rec = fun st => { state := st, pending := none, fn, tmps := a.tmps, params := ps, assign, body, defers := w.heap.size } := ⟨_, rfl⟩
  obtain ⟨W1, hW1⟩ : ∃ W1, (w.alloc (.deferred (some []))).alloc (.loop (rec .ready)) = W1 := ⟨_, rfl⟩
  have hL1 : W1.heap[w.heap.size + 1]? = some (.loop (rec .ready)) := by
    rw [← hW1]; have := World.alloc_heap_new (w.alloc (.deferred (some []))) (.loop (rec .ready)); rwa [World.size_alloc] at this
  have hK1 : W1.heap[w.heap.size]? = some (.deferred (some [])) := by
    rw [← hW1]; exact (Below.heap_alloc _ _ _ (by simp)).trans (World.alloc_heap_new w _)
  have hb1 : Below w.heap.size w W1 := by
    rw [← hW1]; exact (((Below.refl _ w).alloc (Nat.le_refl _) _).alloc (by simp) _)
  refine ⟨w.heap.size + 1, [{ target := .collected w.heap.size, args := #[] }], W1, { target := .fn (.func gf) lb, args := #[.func (.yield (w.heap.size + 1)) #[] #[]] }, W1, gf,
    #[.func (.yield (w.heap.size + 1)) #[] #[]] ++ lb, W1, ?_, ?_, ?_, ?_, (fun h => by cases h), ?_⟩
  · rw [← hW1, hrec]; exact run_enterLoop_outer _ _ _ _ _
  · simp only [resolve, hg]
    simp [go_sem]
  · intro f' _; trivial
  · simp [invoke, go_sem, eg]
  · refine callsIn_wide.2 ((hit W1 _ hb1).mono ?_)
    rintro e W2 ⟨⟨v, rfl⟩, hs⟩
    have hL2 : W2.heap[w.heap.size + 1]? = some (.loop (rec .ready)) := by rw [hs.heap]; exact hL1
    have hK2 : W2.heap[w.heap.size]? = some (.deferred (some [])) := by rw [hs.heap]; exact hK1
    refine ⟨none, _, by have := run_endLoop (P := P) hL2 (by rw [hrec]; simp); rw [hrec] at this; exact this, h _ (below_putObj (hb1.trans (hs.below _)) (by omega) _) ((World.putObj_heap_other (by omega)).trans hK2)⟩

/-- A function's contract from its body, where the body holds such a statement. -/
theorem calls_of_wp_marks {P : Program} {f : FuncId} {fn : Func} {c : Code} {args : Array Value} {w : World} {R : Ending → World → Prop}
    (hf : P.funcs[f]? = some fn) (hb : fn.body = some c)
    (h : c.wp P (bodyPostM Fence.wide 0 P fn R) { tmps := args ++ Array.replicate (fn.ntmps - args.size) undef, defers := [] } w) : Calls P f args w R :=
  (callsIn_wide (n := 0)).1 (callsIn_of_wp_marks hf hb trivial (wpIn_wide.2 h))

set_option maxHeartbeats 400000 in
theorem rings_any (x : Addr) (i : Int) (w : World) : Calls Ybad.prog 41 #[.pointer (some x), .int .i64 i] w fun e w' =>
    e = .returned (.func (.func 55) #[] #[.pointer (some ⟨w.heap.size, 0, none⟩), .pointer (some ⟨w.heap.size + 1, 0, none⟩)]) ∧ w' = (w.alloc (.cells #[.pointer (some x)] 108)).alloc (.cells #[.int .i64 i] 3) := by
  go_enter Ybad.func41, Ybad.ntmps41
  go_wp2
  go_ret
  exact ⟨rfl, rfl⟩

set_option maxHeartbeats 400000 in
/-- The iterator, where byKey is nil: it returns at once. -/
theorem rings1_nil (y : Value) (b o px : Nat) (pi : Value) (w : World) (h1 : w.cell? ⟨px, 0, none⟩ = some (.pointer (some ⟨b, o, none⟩))) (h2 : w.cell? ⟨b, o + 6, none⟩ = some (.pointer none)) :
    Calls Ybad.prog 55 #[y, .pointer (some ⟨px, 0, none⟩), pi] w fun e w' => (∃ v, e = .returned v) ∧ Same w w' := by
  have hd : decide ((none : Option Addr) = none) = true := by simp
  go_enter Ybad.func55, Ybad.ntmps55
  go_wp2
  go_quiet (fail)
  go_wp2
  exact bodyPost_ret (results_none rfl _ _ _) rfl ⟨⟨_, rfl⟩, (Same.refl w).drewN nq⟩

end Go.Proofs.YbulkbdskDoor
