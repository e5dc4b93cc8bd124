/-
  The proof of 'Rows.LawS2752AOutcomeToldSaid': the walk (YbulkbdywFmtLaw), the told row, the tied card.
-/
import Derived.Test.YbulkbdywFmtOpen
import Derived.Test.YbulkbdywFmtTie
import Derived.Test.YbulkbdywFmtCards
import Derived.SevenTiedAt
import Derived.OpenShut
import Derived.ShutString
import Derived.Stop.JoinedAt
import Derived.Stop.Texts
namespace Go.Proofs.YbulkbdywFmt.lawS2752AOutcome
open Go Go.ChangeShapes Go.WideShapes Go.ChangeAt Go.RowKit
open Go.ChangeMaps (open_string shut_string)
open Go.Extern.Stop Go.Stop Go.Extern

theorem own : ownKnob Ybaf.prog.godebug = none := by kernel_rfl
theorem laidOut : laidOutB Ybaf.pinned.checked.prog = true := by kernel_rfl
theorem stops : Ybaf.pinned.checked.prog.stops = ["fmt.errorf"] := by kernel_rfl
theorem stopKnobs : Ybaf.pinned.checked.prog.stopKnobs = [] := by kernel_rfl
theorem quiet (os : Os) : Stop.quiet Ybaf.pinned.checked.prog os := by
  intro k hk
  rw [stopKnobs] at hk
  cases hk
def gName : String := (Rows.lawS2752AOutcomeSpec.vars[0]?).getD "x"
theorem gE : Ybaf.prog.globalNamed gName = some 0 := by kernel_rfl
theorem gEType : (Ybaf.prog.globals[0]?).map (·.type) = some 31 := by kernel_rfl
def ifName : DataW Unit → String
  | .iface n _ => n
  | _ => "x"
def tName : String := ifName Rows.laid_example_com_headward_headward_internal_stepfile_errNoBrace
theorem row41 (u : TypeId) (h : Ybaf.prog.typeName? 3 u = some tName) : u = 41 :=
  typeName_ptr_named (nm := "errors.errorString") (by kernel_rfl) (by kernel_rfl) (by decide) u (h.trans (congrArg some (by decide)))

theorem sentinel {W : World} (h : laidMet Ybaf.prog Rows.lawS2752AOutcomeRow.laid W) : ∃ (a : Addr) (s : ByteArray) (c : Array Value) (t : TypeId), W.var? Ybaf.prog gName = some #[.iface 41 (.pointer (some a))] ∧ W.cell? a = some (.string s) ∧ W.heap[a.block]? = some (.cells c t (0, 0)) :=
  laid_one (n := gName) (nm := tName) h gE gEType Ybaf.underlying31 row41 Ybaf.underlying41 Ybaf.underlying43 rfl rfl Ybaf.underlying9 (by kernel_rfl) (by kernel_rfl)

set_option maxRecDepth 100000 in
theorem lifted (os : Os) (started : os.Started) (H : Type) (enc : TypeId × Value → H) :
    ReturnsInTold none {} Ybaf.checked os 3 .any Input.okWide ((OpenSpec.ofChange Rows.lawS2752AOutcomeSpec).preRow enc Ybaf.prog Ybaf.f3 [] false Rows.lawS2752AOutcomeRow.laid) (fun F => ((OpenSpec.ofChange Rows.lawS2752AOutcomeSpec).at F).post enc Ybaf.prog Ybaf.f3 false true false false) (aloneAtReturn Ybaf.prog) nothingAlways := by
  refine returnsInTold_of_row (C := Ybaf.checked) (s := OpenSpec.ofChange Rows.lawS2752AOutcomeSpec) (by kernel_rfl) own started (by kernel_rfl) Ybaf.func3
    (OpenSpec.witness_stopped_at (enc := enc) (C := Ybaf.checked) false
      { World.holding Ybaf.prog os ⟨#[.cells #[.string ⟨#[105, 116, 32, 100, 111, 101, 115, 32, 110, 111, 116, 32, 115, 116, 97, 114, 116, 32, 119, 105, 116, 104, 32, 123]⟩] 43], #[], []⟩ with heap := (World.holding Ybaf.prog os ⟨#[.cells #[.string ⟨#[105, 116, 32, 100, 111, 101, 115, 32, 110, 111, 116, 32, 115, 116, 97, 114, 116, 32, 119, 105, 116, 104, 32, 123]⟩] 43], #[], []⟩).heap.modify 0 fun
        | .cells _ t frozen => .cells #[.iface 41 (.pointer (some ⟨(World.holding Ybaf.prog default ⟨#[], #[], []⟩).heap.size, 0, none⟩))] t frozen
        | o => o }
      #[.slice none 0 0, .int .u64 0, .bool false, .int .i64 0, .bool false, .string ⟨#[]⟩, .string ⟨#[]⟩, .bool false] rfl (by kernel_rfl) (by kernel_rfl) (by kernel_rfl)
      (OpenSpec.preRow_of_B rfl 8 (by kernel_rfl) (by kernel_rfl) (by rw [MakeChecks.laidMetH_plain _ _ _ (by rfl)]; exact laidMet_of_run' 8 (by kernel_rfl) (by kernel_rfl)))) ?_
  intro F W base args ds gs before _ hF hval0 hW _ _ hsz hL0 _
  have hL : laidMet Ybaf.prog Rows.lawS2752AOutcomeRow.laid W := by
    rw [MakeChecks.laidMetH_plain _ _ _ (by rfl)] at hL0
    exact hL0
  obtain ⟨b0, s0, cb, tb, hv0, hc0, hrow⟩ := sentinel hL
  have hg : W.cell? ⟨0, 0, none⟩ = some (.iface 41 (.pointer (some b0))) := by simpa using World.var?_cell gE hv0 0
  have h00 : 0 < W.heap.size := World.block_lt_of_cell? _ _ hg
  have hval : ∀ (j : Nat) t v, Ybaf.f3.params[j]? = some t → args[j]? = some v → Value.okWide Ybaf.prog W .any base t v := hval0
  have hW' := hW
  obtain ⟨p, q, hA0, hV0, rfl, hfz, hnd⟩ := hW
  have hA : DataW.TrodAll enc Ybaf.prog W 0 (fun _ => true) true Ybaf.f3.params.toList args.toList ds p := hA0
  have hV : DataW.TrodVars enc Ybaf.prog W (fun _ => true) [gName] gs q := hV0
  rw [Ybaf.params3] at hA hval
  obtain ⟨v0, vs0, d0, ds0, p0, q0, hargs, rfl, rfl, h0, r0⟩ := trodAll_cons hA
  obtain ⟨v1, vs1, d1, ds1, p1, q1, rfl, rfl, rfl, h1, r1⟩ := trodAll_cons r0
  obtain ⟨v2, vs2, d2, ds2, p2, q2, rfl, rfl, rfl, h2, r2⟩ := trodAll_cons r1
  obtain ⟨v3, vs3, d3, ds3, p3, q3, rfl, rfl, rfl, h3, r3⟩ := trodAll_cons r2
  obtain ⟨v4, vs4, d4, ds4, p4, q4, rfl, rfl, rfl, h4, r4⟩ := trodAll_cons r3
  obtain ⟨v5, vs5, d5, ds5, p5, q5, rfl, rfl, rfl, h5, r5⟩ := trodAll_cons r4
  obtain ⟨v6, vs6, d6, ds6, p6, q6, rfl, rfl, rfl, h6, r6⟩ := trodAll_cons r5
  obtain ⟨v7, vs7, d7, ds7, p7, q7, rfl, rfl, rfl, h7, r7⟩ := trodAll_cons r6
  obtain ⟨rfl, rfl, rfl⟩ := trodAll_nil r7
  obtain rfl : args = #[v0, v1, v2, v3, v4, v5, v6, v7] := by cases args; simp_all
  obtain ⟨g1, rfl⟩ : ∃ g, gs = [g] := by
    obtain ⟨_, _, _, _, d, _, e, _⟩ := trodVars_one hV
    exact ⟨d, e⟩
  have k0 := h0
  have lt0 : ∀ x ∈ p0, x.block < W.heap.size := by obtain ⟨m, hm⟩ := k0; exact DataW.trod_lt m _ _ _ hm
  obtain ⟨o, n, cap, key, req, rfl, hcell, hkey⟩ := open_fs (hval 0 22 v0 rfl rfl) h0 (fun x hx => by
    have := List.all_eq_true.1 hsz x (DataW.weights_mem_each (j := 0) (t := 22) (d := d0) rfl rfl x hx)
    simpa using this)
  obtain ⟨a1, rfl, rfl, rfl, w1⟩ := open_int Ybaf.underlying23 (hval 1 23 v1 rfl rfl) h1
  obtain ⟨a2, rfl, rfl, rfl⟩ := open_bool Ybaf.underlying4 (hval 2 4 v2 rfl rfl) h2
  obtain ⟨a3, rfl, rfl, rfl, w3⟩ := open_int Ybaf.underlying3 (hval 3 3 v3 rfl rfl) h3
  obtain ⟨a4, rfl, rfl, rfl⟩ := open_bool Ybaf.underlying4 (hval 4 4 v4 rfl rfl) h4
  have k5 := h5
  have k6 := h6
  obtain ⟨a5, rfl, rfl, rfl, w5⟩ := open_string Ybaf.underlying9 (hval 5 9 v5 rfl rfl) h5
  obtain ⟨a6, rfl, rfl, rfl, w6⟩ := open_string Ybaf.underlying9 (hval 6 9 v6 rfl rfl) h6
  obtain ⟨a7, rfl, rfl, rfl⟩ := open_bool Ybaf.underlying4 (hval 7 4 v7 rfl rfl) h7
  have hwalk : Calls Ybaf.prog 3 #[.slice o n cap, .int .u64 a1, .bool a2, .int .i64 a3, .bool a4, .string a5, .string a6, .bool a7] W fun e w' => e = .returned (.bool true) ∧ Below W.heap.size W w' := by
    by_cases hn : n ≤ 1024
    · have b1 := bounds_u64 w1
      obtain ⟨sn, rfl⟩ : ∃ sn : Nat, a1 = (sn : Int) := ⟨a1.toNat, by omega⟩
      exact law_any F.told o n cap sn a2 a3 a4 a5 a6 a7 key req b0 s0 cb tb W hF hn (by omega) hkey hcell hg hc0 hrow h00
    · exact law_long o n cap _ _ _ _ _ _ _ W (by omega)
  clear hA0 hval0
  refine hwalk.mono fun e W' ⟨he, bel⟩ => ?_
  subst he
  have lo : laidOutB Ybaf.prog = true := laidOut
  exact ⟨_, rfl, _, _, _, [], _, _, hW', trodAll_mk1 (shut_bool Ybaf.underlying4 _), (trodAll_cons_mk (Below.trod lo (by kernel_rfl) (of_decide_eq_true (by kernel_rfl)) k0 bel lt0) (trodAll_cons_mk (shut_int Ybaf.underlying23 w1) (trodAll_cons_mk (shut_bool Ybaf.underlying4 _) (trodAll_cons_mk (shut_int Ybaf.underlying3 w3) (trodAll_cons_mk (shut_bool Ybaf.underlying4 _) (trodAll_cons_mk (Below.trod lo (by kernel_rfl) (of_decide_eq_true (by kernel_rfl)) k5 bel (fun x hx => by cases hx)) (trodAll_cons_mk (Below.trod lo (by kernel_rfl) (of_decide_eq_true (by kernel_rfl)) k6 bel (fun x hx => by cases hx)) (trodAll_cons_mk (shut_bool Ybaf.underlying4 _) trodAll_mk0)))))))), Below.trodVars lo bel (by kernel_rfl) hV, bel.frame _, fun h => by cases h⟩

/-- ████ THE STATEMENT ████ -/
theorem proved : Rows.LawS2752AOutcomeToldSaid :=
  Claim7.holds_of_told_tied_any_at .later 3 Ybaf.f3 "fmt.errorf" [] [] _ _ _ _ _ (by kernel_rfl) rfl rfl rfl laidOut (by kernel_rfl) rfl ⟨rfl, rfl, rfl, rfl, rfl, rfl, rfl⟩ rfl rfl (by kernel_rfl) (by kernel_rfl) Ybaf.func3 (by kernel_rfl)
    (of_decide_eq_true (by kernel_rfl)) (of_decide_eq_true (by kernel_rfl)) stops.symm rfl stopKnobs.symm (by kernel_rfl)
    (by kernel_rfl) (by kernel_rfl) (by kernel_rfl) (by kernel_rfl) (by kernel_rfl) (by kernel_rfl) (by kernel_rfl) (by kernel_rfl) (by kernel_rfl) rfl (by kernel_rfl) rfl rfl
    rfl rfl
    rfl (by kernel_rfl) (by kernel_rfl) (by kernel_rfl) (by decide) (by kernel_rfl) lawS2752AOutcome_row_tie
    (OpenClaim.moreEntering_of (by kernel_rfl) (by kernel_rfl) (by kernel_rfl) (by kernel_rfl) (by kernel_rfl) (by kernel_rfl) (by kernel_rfl) (by kernel_rfl) (by kernel_rfl) (by kernel_rfl))
    ⟨_, WideRow.started_initial, quiet _⟩
    (fun os started _ H enc _ => lifted os started H enc)
#print axioms proved
end Go.Proofs.YbulkbdywFmt.lawS2752AOutcome
