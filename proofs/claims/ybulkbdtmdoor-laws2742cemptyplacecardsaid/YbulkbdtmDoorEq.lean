import Derived.Test.YbulkbdtmDoorUsedEnd
import Derived.ChangeKeysEq
namespace Go.Proofs.YbulkbdtmDoor
open Go.RowKit

theorem Ybad.info22 : (Ybad.prog.info? 22).map (fun i => (i.zero, i.size, i.bytes)) = some (some (.int .u64 0), 1, 8) := by kernel_rfl
theorem Ybad.key22 : Ybad.prog.plainKey 22 = true := by kernel_rfl
theorem Ybad.cells22' : Ybad.prog.cellsOf 22 = 1 := by kernel_rfl

theorem eqItems_same (A : Array Value) (f : Nat → Nat) (w : World) : ∀ is : List Nat, (∀ i ∈ is, A[i]? = some (.int .u64 (f i))) → (Op.eqItems 9999 22 1 A A is).run Ybad.prog w = .ok true w
  | [], _ => by simp [Op.eqItems]
  | i :: is, h => by
    have hi := h i (List.mem_cons_self ..)
    have p := run_part_plain (P := Ybad.prog) w Ybad.key22 hi
    have ih := eqItems_same A f w is (fun j hj => h j (List.mem_cons_of_mem _ hj))
    simp only [Op.eqItems, Sem.run_bind, Nat.mul_one, p, Result.andThen_ok, run_equalIn_int w 9998 22 _ _ _ _ Ybad.underlying22, beq_self_eq_true, Bool.not_true, Bool.false_eq_true, if_false]
    exact ih

theorem equal_same (A : Array Value) (f : Nat → Nat) (w : World) (h : ∀ i, i < 8 → A[i]? = some (.int .u64 (f i))) : (Op.equalIn 10000 23 (.agg A) (.agg A)).run Ybad.prog w = .ok true w := by
  obtain ⟨i0, hi, _⟩ := info_parts Ybad.info22
  have e := run_equalIn_array (P := Ybad.prog) w 9999 A A Ybad.underlying23 hi
  rw [Ybad.cells22'] at e
  rw [e]
  exact eqItems_same A f w _ (fun i hi => h i (List.mem_range.1 hi))

namespace Laid
variable {N : Nat} {ct ps : Nat → Nat} {K V : Nat → Int} {w : World} {Wd : Nat → Nat} {EK EV : Nat → Nat → Int} {T C G n g : Nat} {d : Int} {wr : World}
theorem drewN (h : Laid N ct ps K V w Wd EK EV T C G n g d wr) (h0 : 0 < N) (q : Nat) : Laid N ct ps K V w Wd EK EV T C G n g d (wr.drewN q) :=
  ⟨h.held.past h0 ((Past.refl _ _ _).drewN q), h.ctl, h.grp, h.psc⟩
theorem words (h : Laid N ct ps K V w Wd EK EV T C G n g d wr) (j : Nat) (hj : j < n) (hn : n ≤ 8) : wr.cell? ⟨C, j, none⟩ = some (.int .u64 (Wd j)) ∧ wr.cell? ⟨N + 4, j, none⟩ = some (.int .u64 (Wd j)) :=
  ⟨h.ctl.cell hj, h.held.wds.cell (by omega)⟩
theorem keysAt (h : Laid N ct ps K V w Wd EK EV T C G n g d wr) (j k : Nat) (hj : j < n) (hk : k < 8) (hn : n ≤ 8) : wr.cell? ⟨G, j * 16 + 8 + k, none⟩ = some (.int .i64 (EK j k)) ∧ wr.cell? ⟨N + 5, j * 8 + k, none⟩ = some (.int .i64 (EK j k)) := by
  have h1 := h.grp.cell (i := j * 16 + 8 + k) (by omega)
  have h2 := h.held.ek.cell (i := j * 8 + k) (by omega)
  simp only [grpF, sqF] at h1 h2
  rw [if_neg (by omega), show (j * 16 + 8 + k) / 16 = j by omega, show (j * 16 + 8 + k) % 16 - 8 = k by omega] at h1
  rw [show (j * 8 + k) / 8 = j by omega, show (j * 8 + k) % 8 = k by omega] at h2
  exact ⟨h1, h2⟩
theorem valsAt (h : Laid N ct ps K V w Wd EK EV T C G n g d wr) (j k : Nat) (hj : j < n) (hk : k < 8) (hn : n ≤ 8) : wr.cell? ⟨G, j * 16 + k, none⟩ = some (.int .i64 (EV j k)) ∧ wr.cell? ⟨N + 6, j * 8 + k, none⟩ = some (.int .i64 (EV j k)) := by
  have h1 := h.grp.cell (i := j * 16 + k) (by omega)
  have h2 := h.held.ev.cell (i := j * 8 + k) (by omega)
  simp only [grpF, sqF] at h1 h2
  rw [if_pos (by omega), show (j * 16 + k) / 16 = j by omega, show (j * 16 + k) % 16 = k by omega] at h1
  rw [show (j * 8 + k) / 8 = j by omega, show (j * 8 + k) % 8 = k by omega] at h2
  exact ⟨h1, h2⟩
end Laid
end Go.Proofs.YbulkbdtmDoor
