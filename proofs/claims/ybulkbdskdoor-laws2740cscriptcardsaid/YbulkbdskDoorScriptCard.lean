/-
  The proof of 'Rows.LawS2740CScriptCardSaid': the walk (YbulkbdskDoorCore), the row, the tied card.
-/
import Derived.Test.YbulkbdskDoorOpen
import Derived.Test.YbulkbdskDoorTie
import Derived.Test.YbulkbdskDoorCards
import Derived.SevenTiedAt
import Derived.Lay
namespace Go.Proofs.YbulkbdskDoor.lawS2740CScript
open Go Go.ChangeShapes Go.WideShapes Go.ChangeAt Go.RowKit

theorem own : ownKnob Ybad.prog.godebug = none := by kernel_rfl
theorem laidOut : laidOutB Ybad.prog = true := by kernel_rfl

set_option maxHeartbeats 1000000 in
set_option maxRecDepth 100000 in
theorem walk_long (a0 : Option Addr) (len cap : Nat) (w : World) (h : 1024 < len) : Calls Ybad.prog 3 #[.slice a0 len cap] w fun e w' => e = .returned (.bool true) ∧ Below w.heap.size w w' := by
  have hlt : (1024 : Int) < (len : Int) := by omega
  go_enter Ybad.func3, Ybad.ntmps3
  go_wp2
  go_ret
  exact ⟨rfl, Below.refl _ _⟩

/-- The walk, at the argument as the row opens it. -/
theorem walk (a0 : Option Addr) (len cap : Nat) (w : World) (h : IsOps w a0 len) (hz : Z0 w) : Calls Ybad.prog 3 #[.slice a0 len cap] w fun e w' => e = .returned (.bool true) ∧ Below w.heap.size w w' := by
  by_cases hlen : len ≤ 1024
  · have h1 : 1 < w.heap.size := by
      rcases Nat.lt_or_ge 1 w.heap.size with e | e
      · exact e
      · unfold Z0 at hz
        rw [World.cell?, Array.getElem?_eq_none e] at hz
        cases hz
    by_cases h0 : len = 0
    · subst h0
      exact law_core a0 0 cap 0 0 (fun _ => 0) (fun _ => 0) (fun _ => 0) (fun _ => false) (fun _ => false) (fun _ => false) w (by omega) (fun k W hk => by omega) (fun k hk => by omega) (fun k hk => by omega) hz h1
    · rcases h with h | ⟨x, rfl, hx⟩
      · exact absurd h h0
      · obtain ⟨b, off, spot⟩ := x
        obtain rfl : spot = none := by
          obtain ⟨_, _, _, _, _, _, _, hc⟩ := hx 0 (by omega)
          simpa [Addr.add] using World.cell?_spot (hc 0 (by omega))
        have key : ∀ k, k < len → ∀ j, j < 6 → w.cell? ⟨b, off + k * 6 + j, none⟩ = some (opc (numAt (w.cell? ⟨b, off + k * 6 + 0, none⟩)) (numAt (w.cell? ⟨b, off + k * 6 + 1, none⟩)) (boolAt (w.cell? ⟨b, off + k * 6 + 2, none⟩)) (boolAt (w.cell? ⟨b, off + k * 6 + 3, none⟩)) (boolAt (w.cell? ⟨b, off + k * 6 + 4, none⟩)) (numAt (w.cell? ⟨b, off + k * 6 + 5, none⟩)) j) ∧
            (0 ≤ numAt (w.cell? ⟨b, off + k * 6 + 0, none⟩) ∧ numAt (w.cell? ⟨b, off + k * 6 + 0, none⟩) ≤ 255) ∧ 0 ≤ numAt (w.cell? ⟨b, off + k * 6 + 1, none⟩) ∧ numAt (w.cell? ⟨b, off + k * 6 + 1, none⟩) ≤ 255 := fun k hk j hj => by
          obtain ⟨a, b', ky, d, c, e, hb, hc⟩ := hx k hk
          have hc : ∀ j, j < 6 → w.cell? ⟨b, off + k * 6 + j, none⟩ = some (opc a b' d c e ky j) := fun j hj => by
            have := hc j hj
            rwa [Addr.add_lit, Addr.add_lit] at this
          rw [hc 0 (by omega), hc 1 (by omega), hc 2 (by omega), hc 3 (by omega), hc 4 (by omega), hc 5 (by omega)]
          exact ⟨hc j hj, hb⟩
        exact law_core _ len cap b off (fun k => numAt (w.cell? ⟨b, off + k * 6 + 0, none⟩)) (fun k => numAt (w.cell? ⟨b, off + k * 6 + 1, none⟩)) (fun k => numAt (w.cell? ⟨b, off + k * 6 + 5, none⟩)) (fun k => boolAt (w.cell? ⟨b, off + k * 6 + 2, none⟩)) (fun k => boolAt (w.cell? ⟨b, off + k * 6 + 3, none⟩)) (fun k => boolAt (w.cell? ⟨b, off + k * 6 + 4, none⟩)) w hlen
          (fun k W hk => idx22 b off len cap k W hk) (fun k hk j hj => (key k hk j hj).1) (fun k hk => (key k hk 0 (by omega)).2) hz h1
  · exact walk_long a0 len cap w (by omega)

set_option maxRecDepth 100000 in
theorem lifted (os : Os) (started : os.Started) (H : Type) (enc : TypeId × Value → H) :
    ReturnsInHanded {} Ybad.checked os 3 .any (fun w args => (Rows.lawS2740CScriptSpec.pre enc Ybad.prog Ybad.f3 [] false w args ∧ laidMetH Ybad.prog Rows.lawS2740CScriptRow.laid w) ∧ sizedMet enc Ybad.prog Ybad.f3 (OpenSpec.ofChange Rows.lawS2740CScriptSpec) false w args)
      (Rows.lawS2740CScriptSpec.post enc Ybad.prog Ybad.f3 false true false false) := by
  refine returnsInHanded_of_change_and (C := Ybad.checked) (X := fun w _ => laidMetH Ybad.prog Rows.lawS2740CScriptRow.laid w) (fun _ _ _ hh h => h.of_heap hh) own started (by kernel_rfl) Ybad.func3
    (ChangeSpec.witness_shaped (enc := enc) (C := Ybad.checked) (os := os) (X := fun w _ => laidMetH Ybad.prog Rows.lawS2740CScriptRow.laid w) false
      (World.laidAll Ybad.prog os Rows.lawS2740CScriptRow.laid) #[.slice none 0 0] 8 (World.laidAll_os _ _ _) (World.shaped_of_ZipB (by kernel_rfl) (by kernel_rfl)) (by kernel_rfl) (by kernel_rfl) (by kernel_rfl)
      (by rw [MakeChecks.laidMetH_plain _ _ _ (by rfl)]; exact laidMet_laidAll _ (by kernel_rfl) (by kernel_rfl))) ?_
  intro W base args ds gs before hval0 hW _ _ hL0 _
  have hL : laidMet Ybad.prog Rows.lawS2740CScriptRow.laid W := by
    rw [MakeChecks.laidMetH_plain _ _ _ (by rfl)] at hL0
    exact hL0
  have hZ := z0_of_laid hL
  have hval : ∀ (j : Nat) t v, Ybad.f3.params[j]? = some t → args[j]? = some v → Value.okWide Ybad.prog W .any base t v := hval0
  have hW' := hW
  obtain ⟨p, q, hA0, hV, rfl, hfz, hnd⟩ := hW
  have hA : DataW.TrodAll enc Ybad.prog W 0 (fun _ => true) true Ybad.f3.params.toList args.toList ds p := hA0
  rw [Ybad.params3] at hA hval
  obtain ⟨v0, vs0, d0, ds0, p0, q0, hargs, rfl, rfl, h0, r0⟩ := trodAll_cons hA
  obtain ⟨rfl, rfl, rfl⟩ := trodAll_nil r0
  obtain rfl : args = #[v0] := by cases args; simp_all
  obtain ⟨rfl, rfl⟩ := trodVars_none hV
  obtain ⟨a0, len0, cap0, rfl⟩ := okWide_slice Ybad.underlying22 (hval 0 22 v0 rfl rfl)
  have k0 := h0
  have lt0 : ∀ x ∈ p0, x.block < W.heap.size := by obtain ⟨m, hm⟩ := k0; exact DataW.trod_lt m _ _ _ hm
  have hops : IsOps W a0 len0 := by
    obtain ⟨fuel, hf⟩ := h0
    exact open_ops hf
  clear hA0 hval0
  simp only [List.append_nil] at hW'
  refine (walk a0 len0 cap0 W hops hZ).mono fun e W' ⟨he, bel⟩ => ?_
  subst he
  have k2 := Below.trod laidOut (by kernel_rfl) (of_decide_eq_true (by kernel_rfl)) k0 bel lt0
  exact ⟨_, rfl, _, _, _, [], _, [], hW', trodAll_mk1 (shut_bool Ybad.underlying4 _), trodAll_cons_mk k2 trodAll_mk0, rfl, bel.frame _, fun h => by cases h⟩

theorem over : Rows.LawS2740CScriptSaid :=
  OpenClaim.holds_of_wide 3 Ybad.f3 rfl rfl rfl rfl rfl rfl rfl ⟨rfl, rfl, rfl, rfl, rfl⟩ rfl rfl rfl rfl rfl (by kernel_rfl) Ybad.func3 (by kernel_rfl)
    (of_decide_eq_true (by kernel_rfl)) (by unfold Func.isWrapper; first | (rw [if_pos (by decide +kernel)]; kernel_rfl) | (rw [if_neg (by decide +kernel)]; exact ⟨rfl, rfl⟩))
    (fun os started H enc _ => lifted os started H enc)

/-- ████ THE STATEMENT ████ -/
theorem proved : Rows.LawS2740CScriptCardSaid :=
  Claim7.holds_tied_plain_at .later [] [.called, .called, .zero] true (true, "a733446fd735721778118e20ce9f7bf1eb4e1162a0a41d178ec0a658739eb99a") false
    over (fun _ h => by cases h) (by kernel_rfl) (fun _ h => by cases h) lawS2740CScript_row_tie rfl ⟨rfl, rfl⟩ (by kernel_rfl) rfl
    (fun f fn hf hfn => by
      obtain rfl : f = 3 := Option.some.inj ((show Ybad.prog.funcNamed Rows.lawS2740CScriptRow.func = some 3 by kernel_rfl).symm.trans hf) |>.symm
      obtain rfl : fn = Ybad.f3 := (Option.some.inj (Ybad.func3.symm.trans hfn)).symm
      exact ⟨by kernel_rfl, fun j t ht => by
        rw [Ybad.params3] at ht
        have h3 : t = 22 := by
          rcases j with _ | j <;> simp at ht
          exact ht.symm
        subst h3
        exact (show Ybad.prog.wantsStandIn 22 = false by kernel_rfl)⟩)
    (by kernel_rfl)
#print axioms proved
end Go.Proofs.YbulkbdskDoor.lawS2740CScript
