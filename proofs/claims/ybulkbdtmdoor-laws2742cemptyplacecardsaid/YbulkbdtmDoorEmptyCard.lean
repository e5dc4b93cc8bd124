/-
  The proof of 'Rows.LawS2742CEmptyPlaceCardSaid': the walk (YbulkbdtmDoorEmpty), the row, the tied card.
-/
import Derived.Test.YbulkbdtmDoorEmpty
import Derived.Test.YbulkbdtmDoorOpen
import Derived.Test.YbulkbdtmDoorTie
import Derived.Test.YbulkbdtmDoorCards
import Derived.SevenTiedAt
namespace Go.Proofs.YbulkbdtmDoor.lawS2742CEmptyPlace
open Go Go.ChangeShapes Go.WideShapes Go.ChangeAt Go.RowKit

theorem own : ownKnob Ybad.prog.godebug = none := by kernel_rfl
theorem laidOut : laidOutB Ybad.prog = true := by kernel_rfl

/-- The walk, at the arguments as the row opens them. -/
theorem walk (fr : Bool) (a0 a1 a3 : Int) (A2 A3 A4 : Array Value) (f2 f3 f4 : Nat → Int) (w0 : (Lit.int .u8 a0).wf = true) (w3 : (Lit.int .u8 a3).wf = true) (s2 : A2.size = 8) (s3 : A3.size = 8) (s4 : A4.size = 8)
    (h2 : ∀ i, i < 8 → A2[i]? = some (.int .u64 (f2 i)) ∧ (Lit.int .u64 (f2 i)).wf = true)
    (h3 : ∀ i, i < 8 → A3[i]? = some (.int .i64 (f3 i)) ∧ (Lit.int .i64 (f3 i)).wf = true) (h4 : ∀ i, i < 8 → A4[i]? = some (.int .i64 (f4 i)) ∧ (Lit.int .i64 (f4 i)).wf = true) (w : World) (hT : Tab w) :
    Calls Ybad.prog 3 #[.int .u8 a0, .int .i64 a1, .int .u8 a3, .agg A2, .agg A3, .agg A4, .bool fr] w fun e w' => e = .returned (.bool true) ∧ Below w.heap.size w w' := by
  have b0 := bounds_u8 w0
  have b3 := bounds_u8 w3
  obtain ⟨m, rfl⟩ : ∃ m : Nat, a3 = (m : Int) := ⟨a3.toNat, by omega⟩
  obtain ⟨n, hn⟩ : ∃ n : Nat, 1 + a0 % 8 = (n : Int) := ⟨(1 + a0 % 8).toNat, by omega⟩
  have hsz : 0 < w.heap.size := by
    have h := hT 0 (by omega)
    rcases Nat.eq_zero_or_pos w.heap.size with e | e
    · rw [World.cell?, Array.getElem?_eq_none (by omega)] at h
      cases h
    · exact e
  have n2 : ∀ i, i < 8 → f2 i = (((f2 i).toNat : Nat) : Int) := fun i hi => by
    have := bounds_u64 (h2 i hi).2
    omega
  exact empty_core fr a0 a1 m A2 A3 A4 (fun i => (f2 i).toNat) f3 f4 n _ _ w b0.1 b0.2 hn (by omega) s2 s3 s4
    (fun i hi => by rw [(h2 i hi).1, n2 i hi]; rfl) (fun i hi => (h3 i hi).1) (fun i hi => (h4 i hi).1) hT hsz (fun _ => rfl) (fun _ => rfl)

set_option maxRecDepth 100000 in
theorem lifted (os : Os) (started : os.Started) (H : Type) (enc : TypeId × Value → H) :
    ReturnsInHanded {} Ybad.checked os 3 .any (fun w args => (Rows.lawS2742CEmptyPlaceSpec.pre enc Ybad.prog Ybad.f3 [] false w args ∧ laidMetH Ybad.prog Rows.lawS2742CEmptyPlaceRow.laid w) ∧ sizedMet enc Ybad.prog Ybad.f3 (OpenSpec.ofChange Rows.lawS2742CEmptyPlaceSpec) false w args)
      (Rows.lawS2742CEmptyPlaceSpec.post enc Ybad.prog Ybad.f3 false true false false) := by
  refine returnsInHanded_of_change_and (C := Ybad.checked) (X := fun w _ => laidMetH Ybad.prog Rows.lawS2742CEmptyPlaceRow.laid w) (fun _ _ _ hh h => h.of_heap hh) own started (by kernel_rfl) Ybad.func3
    (ChangeSpec.witness_at (enc := enc) (C := Ybad.checked) (os := os) (X := fun w _ => laidMetH Ybad.prog Rows.lawS2742CEmptyPlaceRow.laid w) false
      { World.holding Ybad.prog os ⟨#[], #[], []⟩ with heap := (World.holding Ybad.prog os ⟨#[], #[], []⟩).heap.modify 0 fun
        | .cells _ t frozen => .cells (tabL.map fun z => Value.int .u8 z).toArray t frozen
        | o => o }
      #[.int .u8 0, .int .i64 0, .int .u8 0, .agg (Array.replicate 8 (.int .u64 0)), .agg (Array.replicate 8 (.int .i64 0)), .agg (Array.replicate 8 (.int .i64 0)), .bool false] 8 rfl (by kernel_rfl) (by kernel_rfl) (by kernel_rfl) (by kernel_rfl) (by kernel_rfl)
      (by rw [MakeChecks.laidMetH_plain _ _ _ (by rfl)]; exact laidMet_of_run' 8 (by kernel_rfl) (by kernel_rfl))) ?_
  intro W base args ds gs before hval0 hW _ _ hL0 _
  have hL : laidMet Ybad.prog [(tabName, Rows.laid_math_bits_deBruijn64tab)] W := by
    rw [MakeChecks.laidMetH_plain _ _ _ (by rfl)] at hL0
    exact hL0
  have hT := tab_of_laid hL
  have hval : ∀ (j : Nat) t v, Ybad.f3.params[j]? = some t → args[j]? = some v → Value.okWide Ybad.prog W .any base t v := hval0
  have hW' := hW
  obtain ⟨p, q, hA0, hV, rfl, hfz, hnd⟩ := hW
  have hA : DataW.TrodAll enc Ybad.prog W 0 (fun _ => true) true Ybad.f3.params.toList args.toList ds p := hA0
  rw [Ybad.params3] at hA hval
  obtain ⟨v0, vs0, d0, ds0, p0, q0, hargs, rfl, rfl, h0, r0⟩ := trodAll_cons hA
  obtain ⟨v1, vs1, d1, ds1, p1, q1, rfl, rfl, rfl, h1, r1⟩ := trodAll_cons r0
  obtain ⟨v2, vs2, d2, ds2, p2, q2, rfl, rfl, rfl, h2, r2⟩ := trodAll_cons r1
  obtain ⟨v3, vs3, d3, ds3, p3, q3, rfl, rfl, rfl, h3, r3⟩ := trodAll_cons r2
  obtain ⟨v4, vs4, d4, ds4, p4, q4, rfl, rfl, rfl, h4, r4⟩ := trodAll_cons r3
  obtain ⟨v5, vs5, d5, ds5, p5, q5, rfl, rfl, rfl, h5, r5⟩ := trodAll_cons r4
  obtain ⟨v6, vs6, d6, ds6, p6, q6, rfl, rfl, rfl, h6, r6⟩ := trodAll_cons r5
  obtain ⟨rfl, rfl, rfl⟩ := trodAll_nil r6
  obtain rfl : args = #[v0, v1, v2, v3, v4, v5, v6] := by cases args; simp_all
  obtain ⟨rfl, rfl⟩ := trodVars_none hV
  obtain ⟨a0, rfl, rfl, rfl, w0⟩ := open_int Ybad.underlying5 (hval 0 5 v0 rfl rfl) h0
  obtain ⟨a1, rfl, rfl, rfl, w1⟩ := open_int Ybad.underlying3 (hval 1 3 v1 rfl rfl) h1
  obtain ⟨a2, rfl, rfl, rfl, w2⟩ := open_int Ybad.underlying5 (hval 2 5 v2 rfl rfl) h2
  obtain ⟨A3, f3, rfl, s3, rfl, c3⟩ := open_arr Ybad.underlying23 Ybad.underlying22 (by kernel_rfl) (by kernel_rfl) (hval 3 23 v3 rfl rfl) h3
  obtain ⟨A4, f4, rfl, s4, rfl, c4⟩ := open_arr Ybad.underlying24 Ybad.underlying3 (by kernel_rfl) (by kernel_rfl) (hval 4 24 v4 rfl rfl) h4
  obtain ⟨A5, f5, rfl, s5, rfl, c5⟩ := open_arr Ybad.underlying24 Ybad.underlying3 (by kernel_rfl) (by kernel_rfl) (hval 5 24 v5 rfl rfl) h5
  obtain ⟨fr, rfl, rfl, rfl⟩ := open_bool Ybad.underlying4 (hval 6 4 v6 rfl rfl) h6
  clear hA0 hval0
  simp only [List.append_nil] at hW'
  refine (walk fr a0 a1 a2 A3 A4 A5 f3 f4 f5 w0 w2 s3 s4 s5 c3 c4 c5 W hT).mono fun e W' ⟨he, bel⟩ => ?_
  subst he
  have k3 := Below.trod laidOut (by kernel_rfl) (of_decide_eq_true (by kernel_rfl)) h3 bel (fun x hx => by cases hx)
  have k4 := Below.trod laidOut (by kernel_rfl) (of_decide_eq_true (by kernel_rfl)) h4 bel (fun x hx => by cases hx)
  have k5 := Below.trod laidOut (by kernel_rfl) (of_decide_eq_true (by kernel_rfl)) h5 bel (fun x hx => by cases hx)
  exact ⟨_, rfl, _, _, _, [], _, [], hW', trodAll_mk1 (shut_bool Ybad.underlying4 _), (trodAll_cons_mk (shut_int Ybad.underlying5 w0) (trodAll_cons_mk (shut_int Ybad.underlying3 w1) (trodAll_cons_mk (shut_int Ybad.underlying5 w2) (trodAll_cons_mk k3 (trodAll_cons_mk k4 (trodAll_cons_mk k5 (trodAll_cons_mk (shut_bool Ybad.underlying4 fr) trodAll_mk0))))))), rfl, bel.frame _, fun h => by cases h⟩

theorem over : Rows.LawS2742CEmptyPlaceSaid :=
  OpenClaim.holds_of_wide 3 Ybad.f3 rfl rfl rfl rfl rfl rfl rfl ⟨rfl, rfl, rfl, rfl, rfl⟩ rfl rfl rfl rfl rfl (by kernel_rfl) Ybad.func3 (by kernel_rfl)
    (of_decide_eq_true (by kernel_rfl)) (by unfold Func.isWrapper; first | (rw [if_pos (by decide +kernel)]; kernel_rfl) | (rw [if_neg (by decide +kernel)]; exact ⟨rfl, rfl⟩))
    (fun os started H enc _ => lifted os started H enc)

/-- ████ THE STATEMENT ████ -/
theorem proved : Rows.LawS2742CEmptyPlaceCardSaid :=
  Claim7.holds_tied_plain_at .later [] [.data] true (true, "cd8f6fbfcb2323d88c18b981cf99c2444d3c779cddf3ab69c12ce7cd691ee4dd") false
    over (fun _ h => by cases h) (by kernel_rfl) (fun _ h => by cases h) lawS2742CEmptyPlace_row_tie rfl ⟨rfl, rfl⟩ (by kernel_rfl) rfl
    (fun f fn hf hfn => by
      obtain rfl : f = 3 := Option.some.inj ((show Ybad.prog.funcNamed Rows.lawS2742CEmptyPlaceRow.func = some 3 by kernel_rfl).symm.trans hf) |>.symm
      obtain rfl : fn = Ybad.f3 := (Option.some.inj (Ybad.func3.symm.trans hfn)).symm
      exact ⟨by kernel_rfl, fun j t ht => by
        rw [Ybad.params3] at ht
        have h3 : t = 5 ∨ t = 3 ∨ t = 23 ∨ t = 24 ∨ t = 4 := by
          rcases j with _ | _ | _ | _ | _ | _ | _ | j <;> simp at ht <;> subst ht <;> simp
        rcases h3 with rfl | rfl | rfl | rfl | rfl
        · exact (show Ybad.prog.wantsStandIn 5 = false by kernel_rfl)
        · exact (show Ybad.prog.wantsStandIn 3 = false by kernel_rfl)
        · exact (show Ybad.prog.wantsStandIn 23 = false by kernel_rfl)
        · exact (show Ybad.prog.wantsStandIn 24 = false by kernel_rfl)
        · exact (show Ybad.prog.wantsStandIn 4 = false by kernel_rfl)⟩)
    (by kernel_rfl)
#print axioms proved
end Go.Proofs.YbulkbdtmDoor.lawS2742CEmptyPlace
