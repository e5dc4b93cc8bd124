import Derived.Test.YbulkbdywFmtLaw
import Derived.ProofKit
import Derived.Stop.JoinedTold
import Derived.Stop.LaidErr
import Derived.Stop.LaidTwo
import Derived.Deep.SlicePairs
import Derived.SizedLaws
import Derived.OpenVars
import Derived.MakeChecks
import Derived.LaidLaws
/-! Opening the law's arguments and its one listed variable. -/
namespace Go.Proofs.YbulkbdywFmt
open Go.ChangeShapes Go.WideShapes Go.ChangeAt Go.RowKit
open Go.Extern.Stop Go.Stop Go.Extern

theorem weightsAll_mem {H : Type} {P : Program} {e : TypeId} : ∀ {l : List (DataW H)} {d : DataW H}, d ∈ l → ∀ n ∈ d.weights P e, n ∈ DataW.weightsAll P e l
  | x :: l, d, hd, n, hn => by
    simp only [DataW.weightsAll, List.mem_append]
    rcases List.mem_cons.1 hd with rfl | h
    · exact .inl hn
    · exact .inr (weightsAll_mem h n hn)

/-- One listed sentinel: its place, its text, its row. -/
theorem laid_one {P : Program} {n nm : String} {text : List UInt8} {r : List (String × DataW Unit)} {W : World} {g : Nat} {ti tp te ts : TypeId} {ms : Array (String × TypeId)} {f : Field}
    (h : laidMet P ((n, .iface nm (.ptr (.agg [.lit (.string text)]))) :: r) W)
    (hg : P.globalNamed n = some g) (ht : (P.globals[g]?).map (·.type) = some ti) (hi : P.underlying ti = some (.interface ms)) (hrow : ∀ u, P.typeName? 3 u = some nm → u = tp)
    (hp : P.underlying tp = some (.pointer te)) (he : P.underlying te = some (.struct #[f])) (hft : f.type = ts) (hfo : f.offset = 0) (hs : P.underlying ts = some .string) (hc : P.cellsOf te = 1) (hcs : P.cellsOf ts = 1) :
    ∃ (a : Addr) (s : ByteArray) (c : Array Value) (t : TypeId), W.var? P n = some #[.iface tp (.pointer (some a))] ∧ W.cell? a = some (.string s) ∧ W.heap[a.block]? = some (.cells c t (0, 0)) := by
  obtain ⟨ps, ⟨g0, t0, cs0, f0, p0, q0, hg0, ht0, hv0, hd0, _, e0⟩, _, hrows⟩ := h
  obtain rfl := Option.some.inj (hg.symm.trans hg0)
  obtain rfl := Option.some.inj (ht.symm.trans ht0)
  subst e0
  obtain ⟨l0⟩ := cs0
  have ok0 : ∀ u v, l0 = [.iface u v] → Value.okWide P W .any 0 u v := fun u v e => by
    subst e
    exact (hrows g 0 (by simp [MemPlace.row])).2 u v (by simpa using World.var?_cell hg0 hv0 0)
  obtain ⟨a0, s0, rfl, hc0, _, _, rfl⟩ := errorString_of_trod hi hrow hp he hft hfo hs hc hcs hd0 ok0
  obtain ⟨c, t, hh⟩ := (hrows a0.block a0.off (by simp [MemPlace.row])).1
  exact ⟨a0, s0, c, t, hv0, hc0, hh⟩

theorem spot_none {w : World} {b o : Nat} {sp : Option Nat} {v : Value} (h : w.cell? ⟨b, o, sp⟩ = some v) : sp = none := by
  cases sp with
  | none => rfl
  | some k =>
    unfold World.cell? at h
    split at h <;> simp at h
theorem add_none (b off k : Nat) : (⟨b, off, none⟩ : Addr).add k = ⟨b, off + k, none⟩ := by
  unfold Addr.add
  split
  · rename_i h; subst h; rfl
  · rfl
def strOf : Value → ByteArray
  | .string s => s
  | _ => ⟨#[]⟩
def boolOf : Value → Bool
  | .bool b => b
  | _ => false

set_option maxRecDepth 100000 in
/-- The law's fields, opened. -/
theorem open_fs {H : Type} {enc : TypeId × Value → H} {W : World} {base : Nat} {v : Value} {d : DataW H} {p : List MemPlace} (hok : Value.okWide Ybaf.prog W .any base 22 v) (h : DataW.Trod enc Ybaf.prog W 0 (fun _ => true) true 22 v d p)
    (hw : ∀ x ∈ d.weights Ybaf.prog 22, x ≤ reachBytes) :
    ∃ (o : Option Addr) (n cap : Nat) (key : Nat → ByteArray) (req : Nat → Bool), v = .slice o n cap ∧ (∀ i, i < n → ∃ b off, o = some ⟨b, off, none⟩ ∧ b < W.heap.size ∧ W.cell? ⟨b, off + i * 2, none⟩ = some (.string (key i)) ∧ W.cell? ⟨b, off + i * 2 + 1, none⟩ = some (.bool (req i))) ∧
      (∀ i, i < n → (key i).size ≤ 281474976710656) := by
  obtain ⟨a, len, cap, rfl⟩ := okWide_slice Ybaf.underlying22 hok
  obtain ⟨fuel, hf⟩ := h
  rcases Deep.open_slice_pairs Ybaf.underlying22 Ybaf.underlying26 (by kernel_rfl) rfl rfl (by kernel_rfl) (by kernel_rfl) hf with ⟨hcs, _⟩ | ⟨x, l, c, m, fu, V0, V1, D0, D1, P0, P1, hcs, _, hl, _, hm, hx, hcell⟩
  · simp [Value.cells] at hcs
    obtain ⟨rfl, rfl, rfl⟩ := hcs
    exact ⟨none, 0, 0, fun _ => ⟨#[]⟩, fun _ => false, rfl, fun i hi => by omega, fun i hi => by omega⟩
  · simp [Value.cells] at hcs
    obtain ⟨rfl, rfl, rfl⟩ := hcs
    have hml : len ≤ m := by rw [hm]; simpa using hl
    have vals : ∀ i, i < len → V0 i = .string (strOf (V0 i)) ∧ D0 i = .lit (.string (strOf (V0 i)).data.toList) ∧ V1 i = .bool (boolOf (V1 i)) := fun i hi => by
      obtain ⟨_, _, t0, t1⟩ := hcell i (by omega)
      obtain ⟨s, e1, e2, _⟩ := DataW.trod_string Ybaf.underlying9 t0
      obtain ⟨b, e3, _⟩ := DataW.trod_bool Ybaf.underlying4 t1
      have e1' : V0 i = .string s := by simpa using e1
      have e3' : V1 i = .bool b := by simpa using e3
      have e2' : D0 i = .lit (.string s.data.toList) := (Prod.mk.inj e2).1
      rw [e1', e3', e2']
      exact ⟨rfl, rfl, rfl⟩
    refine ⟨some x, len, cap, fun i => strOf (V0 i), fun i => boolOf (V1 i), rfl, fun i hi => ?_, fun i hi => ?_⟩
    · obtain ⟨b, off, sp⟩ := x
      have h00 := (hcell 0 (by omega)).1
      have hsp : sp = none := spot_none (w := W) (b := b) (o := off) (by simpa [Addr.add] using h00)
      subst hsp
      obtain ⟨c0, c1, _, _⟩ := hcell i (by omega)
      rw [add_none] at c0 c1
      refine ⟨b, off, rfl, World.block_lt_of_cell? _ _ c0, ?_, ?_⟩
      · rw [c0, ← (vals i hi).1]
      · rw [← Nat.add_assoc] at c1
        rw [c1, ← (vals i hi).2.2]
    · have hd : d = .slice ((List.range len).map fun i => .agg [D0 i, D1 i]) ((List.range (m - len)).map fun j => .agg [D0 (len + j), D1 (len + j)]) := (Prod.mk.inj hx).1
      have hmem : (DataW.agg [D0 i, D1 i]) ∈ ((List.range len).map fun i => (DataW.agg [D0 i, D1 i] : DataW H)) := List.mem_map.2 ⟨i, List.mem_range.2 hi, rfl⟩
      have hwt : (strOf (V0 i)).data.toList.length ∈ (DataW.agg [D0 i, D1 i] : DataW H).weights Ybaf.prog 26 := by
        simp [DataW.weights, Ybaf.underlying26, DataW.weightsEach, (vals i hi).2.1]
      have h1 := hw (strOf (V0 i)).data.toList.length (by
        rw [hd]
        simp only [DataW.weights, Ybaf.underlying22, List.mem_cons, List.mem_append]
        exact .inr (.inl (weightsAll_mem hmem _ hwt)))
      have h2 := reachBytes_lt
      have e47 : (2 : Nat) ^ 47 = 140737488355328 := by decide
      have h3 : (strOf (V0 i)).size = (strOf (V0 i)).data.toList.length := by rw [Array.length_toList]; rfl
      show (strOf (V0 i)).size ≤ 281474976710656
      omega
end Go.Proofs.YbulkbdywFmt
