/-
  The law's argument opened: a slice of operations; the listed variable z0.
-/
import Derived.Test.YbulkbdskDoorCore
import Derived.Test.YbulkbdskDoorRows
import Derived.ProofKit
import Derived.OpenShut
import Derived.Below
import Derived.ChangeOld
import Derived.MakeChecks
import Derived.LaidLaws
namespace Go.Proofs.YbulkbdskDoor
open Go Go.ChangeShapes Go.WideShapes Go.ChangeAt Go.RowKit

def numAt : Option Value → Int
  | some (.int _ z) => z
  | _ => 0
def boolAt : Option Value → Bool
  | some (.bool b) => b
  | _ => false

theorem head_of {cs : List Value} {o : Nat} {v : Value} (h : (cs.drop o).take 1 = [v]) : cs[o]? = some v := by
  have := congrArg (·[0]?) h
  simpa [List.getElem?_take, List.getElem?_drop] using this

/-- The k-th operation's six cells. -/
theorem open_op {H : Type} {enc : TypeId × Value → H} {W : World} {n : Nat} {x : Addr} {y : DataW H × List MemPlace} (h : (W.cells? 0 x 6).bind (DataW.trod enc Ybad.prog W 0 (fun _ => true) true n 38) = some y) :
    ∃ (a b key : Int) (d c e : Bool), ((0 ≤ a ∧ a ≤ 255) ∧ 0 ≤ b ∧ b ≤ 255) ∧ ∀ j, j < 6 → W.cell? (x.add j) = some (opc a b d c e key j) := by
  obtain ⟨cs, hcs, ht⟩ := Option.bind_eq_some_iff.1 h
  obtain ⟨_, hl, hat⟩ := World.cells?_some hcs
  obtain ⟨xs, m, _, _, _, hxs, hf⟩ := DataW.trod_struct Ybad.underlying38 ht
  have hxs : xs.length = 6 := hxs
  have c5 : Ybad.prog.cellsOf 5 = 1 := by kernel_rfl
  have c4 : Ybad.prog.cellsOf 4 = 1 := by kernel_rfl
  have c36 : Ybad.prog.cellsOf 36 = 1 := by kernel_rfl
  have get : ∀ i, i < 6 → ∃ z, xs[i]? = some z := fun i hi => ⟨xs[i]'(by omega), by simp⟩
  obtain ⟨z0, g0⟩ := get 0 (by omega)
  obtain ⟨z1, g1⟩ := get 1 (by omega)
  obtain ⟨z2, g2⟩ := get 2 (by omega)
  obtain ⟨z3, g3⟩ := get 3 (by omega)
  obtain ⟨z4, g4⟩ := get 4 (by omega)
  obtain ⟨z5, g5⟩ := get 5 (by omega)
  have f0 := hf 0 _ rfl
  have f1 := hf 1 _ rfl
  have f2 := hf 2 _ rfl
  have f3 := hf 3 _ rfl
  have f4 := hf 4 _ rfl
  have f5 := hf 5 _ rfl
  rw [g0] at f0
  rw [g1] at f1
  rw [g2] at f2
  rw [g3] at f3
  rw [g4] at f4
  rw [g5] at f5
  obtain ⟨a, e0, _, wa⟩ := DataW.trod_int Ybad.underlying5 f0
  obtain ⟨b, e1, _, wb⟩ := DataW.trod_int Ybad.underlying5 f1
  obtain ⟨d, e2, _⟩ := DataW.trod_bool Ybad.underlying4 f2
  obtain ⟨c, e3, _⟩ := DataW.trod_bool Ybad.underlying4 f3
  obtain ⟨e, e4, _⟩ := DataW.trod_bool Ybad.underlying4 f4
  obtain ⟨key, e5, _, _⟩ := DataW.trod_int Ybad.underlying36 f5
  have ba := bounds_u8 wa
  have bb := bounds_u8 wb
  refine ⟨a, b, key, d, c, e, ⟨⟨by omega, by omega⟩, by omega, by omega⟩, fun j hj => ?_⟩
  rw [hat j hj]
  have e0 : (cs.drop 0).take (Ybad.prog.cellsOf 5) = [.int .u8 a] := e0
  have e1 : (cs.drop 1).take (Ybad.prog.cellsOf 5) = [.int .u8 b] := e1
  have e2 : (cs.drop 2).take (Ybad.prog.cellsOf 4) = [.bool d] := e2
  have e3 : (cs.drop 3).take (Ybad.prog.cellsOf 4) = [.bool c] := e3
  have e4 : (cs.drop 4).take (Ybad.prog.cellsOf 4) = [.bool e] := e4
  have e5 : (cs.drop 5).take (Ybad.prog.cellsOf 36) = [.int .u64 key] := e5
  rw [c5] at e0 e1
  rw [c4] at e2 e3 e4
  rw [c36] at e5
  obtain rfl | rfl | rfl | rfl | rfl | rfl : j = 0 ∨ j = 1 ∨ j = 2 ∨ j = 3 ∨ j = 4 ∨ j = 5 := by omega
  · exact head_of e0
  · exact head_of e1
  · exact head_of e2
  · exact head_of e3
  · exact head_of e4
  · exact head_of e5

/-- WHAT THE WALK IS TOLD OF THE SLICE: nil; or each of its elements is an operation's six cells. -/
def IsOps (w : World) (a : Option Addr) (len : Nat) : Prop :=
  len = 0 ∨ ∃ x, a = some x ∧ ∀ k, k < len → ∃ (a b key : Int) (d c e : Bool), ((0 ≤ a ∧ a ≤ 255) ∧ 0 ≤ b ∧ b ≤ 255) ∧ ∀ j, j < 6 → w.cell? ((x.add (k * 6)).add j) = some (opc a b d c e key j)

theorem open_ops {H : Type} {enc : TypeId × Value → H} {W : World} {fuel : Nat} {a : Option Addr} {len cap : Nat} {y : DataW H × List MemPlace} (h : DataW.trod enc Ybad.prog W 0 (fun _ => true) true fuel 22 [.slice a len cap] = some y) : IsOps W a len := by
  have c38 : Ybad.prog.cellsOf 38 = 6 := by kernel_rfl
  rcases DataW.trod_slice Ybad.underlying22 h with ⟨hcs, _⟩ | ⟨x, l, c, elems, rest, n, _, hcs, _, _, _, _, hlen, hel, _, _⟩
  · simp at hcs
    exact .inl hcs.2.1
  · simp at hcs
    obtain ⟨rfl, rfl, rfl⟩ := hcs
    refine .inr ⟨x, rfl, fun k hk => ?_⟩
    have h1 := hel k hk
    rw [c38, show elems[k]? = some (elems[k]'(by omega)) by simp] at h1
    exact open_op h1

theorem idx22 (b off len cap k : Nat) (W : World) (h : k < len) : (Instr.indexAt 22 (.slice (some ⟨b, off, none⟩) len cap) (.int .i64 (k : Int))).run Ybad.prog W = .ok (.pointer (some ⟨b, off + k * 6, none⟩)) W := by
  have h1 : (k : Int) < (len : Int) := by omega
  go_simp

/-- The listed variable z0, by its place in the given row. -/
theorem z0_of_laid {W : World} (h : laidMet Ybad.prog Rows.lawS2740CScriptRow.laid W) : Z0 W := by
  obtain ⟨ps, hv, _⟩ := h
  obtain ⟨_, _, _, _, _, _, _, _, _, _, hv, _⟩ := hv
  obtain ⟨_, _, _, _, _, _, _, _, _, _, hv, _⟩ := hv
  obtain ⟨g, t, cs, fuel, p, q, hg, ht, hvar, htr, _, _⟩ := hv
  have e1 : g = 1 := Option.some.inj (hg.symm.trans (by kernel_rfl))
  subst e1
  have e2 : t = 44 := Option.some.inj (ht.symm.trans (by kernel_rfl))
  subst e2
  obtain ⟨y0, n, hx, hl, h0⟩ := trod_struct1 Ybad.underlying44 htr
  have hy : y0.1 = .nil := by
    have := congrArg Prod.fst hx
    simp only [Rows.laid_net_netip_z0] at this
    injection this with this
    injection this with this
    exact this.symm
  have c42 : Ybad.prog.cellsOf 42 = 1 := by kernel_rfl
  have hc := World.var?_cell hg hvar 0
  unfold Z0
  rw [hc]
  rcases DataW.trod_pointer Ybad.underlying42 h0 with ⟨e, _⟩ | ⟨_, _, y, _, _, _, hx2, _⟩
  · rw [c42] at e
    have := head_of e
    simpa using this
  · rw [hx2] at hy
    cases hy

end Go.Proofs.YbulkbdskDoor
