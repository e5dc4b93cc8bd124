import Derived.Test.YbulkbdtmDoorSlots
import Derived.ProofKit
import Derived.OpenShut
import Derived.Below
import Derived.Carry
import Derived.Lib.LaidTab
import Derived.MakeChecks
import Derived.LaidLaws
/-! Opening the two laws' array arguments and their one listed table. -/
namespace Go.Proofs.YbulkbdtmDoor
open Go.ChangeShapes Go.WideShapes Go.ChangeAt Go.RowKit

def numOf : Option Value → Int
  | some (.int _ z) => z
  | _ => 0

/-- An array of integers by value: its cells, no places. -/
theorem open_arr {H : Type} {enc : TypeId × Value → H} {P : Program} {W : World} {base : Nat} {t e : TypeId} {k : IntKind} {n : Nat} {v : Value} {d : DataW H} {p : List MemPlace} (ht : P.underlying t = some (.array n e)) (he : P.underlying e = some (.int k))
    (hce : P.cellsOf e = 1) (hct : P.cellsOf t = n) (hok : Value.okWide P W .any base t v) (h : DataW.Trod enc P W 0 (fun _ => true) true t v d p) :
    ∃ (A : Array Value) (f : Nat → Int), v = .agg A ∧ A.size = n ∧ p = [] ∧ (∀ i, i < n → A[i]? = some (.int k (f i)) ∧ (Lit.int k (f i)).wf = true) := by
  obtain ⟨A, rfl, hsz, _⟩ : ∃ cs, v = .agg cs ∧ cs.size = P.cellsOf t ∧ Row.okWide P W .any base t cs := by
    simpa [Value.okWide, ht] using hok
  obtain ⟨fuel, hf⟩ := h
  obtain ⟨xs, m, _, hx, hl, hn, hel⟩ := DataW.trod_array ht hf
  have key : ∀ i, i < n → ∃ z, A[i]? = some (.int k z) ∧ (Lit.int k z).wf = true ∧ xs[i]? = some (.lit (.int k z), []) := fun i hi => by
    have h1 := hel i hi
    rw [hce, Nat.mul_one] at h1
    obtain ⟨y, hy⟩ : ∃ y, xs[i]? = some y := ⟨xs[i]'(by omega), by simp⟩
    rw [hy] at h1
    obtain ⟨z, hc, rfl, hw⟩ := DataW.trod_int he h1
    refine ⟨z, ?_, hw, hy⟩
    have := congrArg (·[0]?) hc
    simpa [List.getElem?_take, List.getElem?_drop, Value.cells] using this
  refine ⟨A, fun i => numOf A[i]?, rfl, by rw [hsz, hct], ?_, fun i hi => ?_⟩
  · have e1 := (Prod.mk.inj hx).2
    rw [e1, List.flatMap_eq_nil_iff]
    intro y hy
    obtain ⟨i, hi, rfl⟩ := List.getElem_of_mem hy
    obtain ⟨z, _, _, hz⟩ := key i (by omega)
    rw [List.getElem?_eq_getElem hi] at hz
    rw [Option.some.inj hz]
  · obtain ⟨z, h1, h2, _⟩ := key i hi
    have e : numOf A[i]? = z := by rw [h1]; rfl
    show A[i]? = some (.int k (numOf A[i]?)) ∧ (Lit.int k (numOf A[i]?)).wf = true
    rw [e]
    exact ⟨h1, h2⟩

/-- The listed variable's name, out of the given row. -/
def tabName : String := (Rows.lawS2742CUsedPlaceRow.named[0]?).getD "x"
theorem Ybad.bruijn : Ybad.prog.globalNamed tabName = some 0 := by kernel_rfl

theorem laid_eq {H : Type} : (Rows.laid_math_bits_deBruijn64tab : DataW H) = Lib.tabData .u8 tabL := rfl
theorem Ybad.bruijnType : (Ybad.prog.globals[0]?).map (·.type) = some 68 := by kernel_rfl

/-- The row's condition gives the walk's table. -/
theorem tab_of_laid {W : World} (h : laidMet Ybad.prog [(tabName, Rows.laid_math_bits_deBruijn64tab)] W) : Tab W := by
  rw [laid_eq] at h
  have h2 := Lib.tabIs_of_head Ybad.bruijn Ybad.bruijnType Ybad.underlying68 Ybad.underlying5 (by kernel_rfl) (by kernel_rfl) h
  exact fun j hj => h2.cell Ybad.bruijn j (by simpa [tabL] using hj)

end Go.Proofs.YbulkbdtmDoor
