/-
  The law's own memory: four arrays beside the torrent; what a round lays: the operation's box, the announce, the time.
-/
import Derived.Test.YbulkbdskDoorFin
import Derived.Deep.CutBlock
namespace Go.Proofs.YbulkbdskDoor
open Go Go.RowKit

/-- The torrent is untouched where only rows of cells of other types turned. -/
theorem Tor.keep {w w' : World} {g : Nat} {tf : Nat → Value} {pf : Nat → Peer} {n nx c dl nb ns : Nat} {fi fe : Nat → Option Int} {ni ne : Nat} {ks : List Nat} (h : Tor w g tf pf n nx c dl nb ns fi fe ni ne) (hT : Turn ks w w') (hk : ∀ k ∈ ks, g < k ∧ ∃ c t fr, w.heap[k]? = some (.cells c t fr) ∧ ixObj (.cells c t fr) = false ∧ t ≠ 77) :
    Tor w' g tf pf n nx c dl nb ns fi fe ni ne where
  ix := h.ix.turn hT (fun k hm o ho => by obtain ⟨_, c, t, fr, hc, hx, _⟩ := hk k hm; rw [hc] at ho; cases ho; exact hx)
  ps := h.ps.turn hT (fun b hb hm => by
    obtain ⟨_, c, t, fr, hc, _, h77⟩ := hk b hm
    obtain ⟨_, c2, h2⟩ := h.ps.block hb
    rw [hc] at h2
    cases h2
    exact h77 rfl)
  t8 := h.t8
  t9 := h.t9
  t12 := h.t12
  t16 := h.t16
  t10 := h.t10
  t11 := h.t11
  mi := h.mi.of (fun es clock hm => hT.obj hm (fun hk' => by obtain ⟨_, c, t, fr, hc, _⟩ := hk _ hk'; rw [hc] at hm; cases hm))
  me := h.me.of (fun es clock hm => hT.obj hm (fun hk' => by obtain ⟨_, c, t, fr, hc, _⟩ := hk _ hk'; rw [hc] at hm; cases hm))
  mb := h.mb.of (fun es clock hm => hT.obj hm (fun hk' => by obtain ⟨_, c, t, fr, hc, _⟩ := hk _ hk'; rw [hc] at hm; cases hm))
  ms := by
    obtain ⟨clock, ⟨e1, hm⟩ | ⟨e1, born, hm⟩⟩ := h.ms
    · exact ⟨clock, .inl ⟨e1, hT.obj hm (fun hk' => by obtain ⟨_, c, t, fr, hc, _⟩ := hk _ hk'; rw [hc] at hm; cases hm)⟩⟩
    · exact ⟨clock, .inr ⟨e1, born, hT.obj hm (fun hk' => by obtain ⟨_, c, t, fr, hc, _⟩ := hk _ hk'; rw [hc] at hm; cases hm)⟩⟩
  ok := h.ok
  z0 := h.z0.turn hT (fun hm => by have := (hk 1 hm).1; have := h.lo; omega)
  lo := h.lo
  small := h.small

theorem St.keep {w w' : World} {g n dl : Nat} {v : Value} {pf : Nat → Peer} {ks : List Nat} (h : St w g v pf n dl) (hT : Turn ks w w') (hk : ∀ k ∈ ks, g < k ∧ ∃ c t fr, w.heap[k]? = some (.cells c t fr) ∧ ixObj (.cells c t fr) = false ∧ t ≠ 77) : St w' g v pf n dl := by
  obtain ⟨tf, fi, fe, hv, T, r⟩ := h
  exact ⟨tf, fi, fe, hv, T.keep hT hk, r⟩

/-- An operation of the script: its six cells. -/
def opc (a b : Int) (d c e : Bool) (key : Int) (k : Nat) : Value :=
  if k = 0 then .int .u8 a else if k = 1 then .int .u8 b else if k = 2 then .bool d else if k = 3 then .bool c else if k = 4 then .bool e else .int .u64 key

structure LW (w W : World) (g : Nat) (v : Value) (pf : Nat → Peer) (n dl : Nat) (pr dn br : Nat → Bool) (po : Nat → Nat) : Prop where
  below : Below g w W
  st : St W g v pf n dl
  r5 : W.rowIs (g + 6) 33 4 (fun k => .bool (pr k))
  r6 : W.rowIs (g + 7) 33 4 (fun k => .bool (dn k))
  r7 : W.rowIs (g + 8) 33 4 (fun k => .bool (br k))
  r8 : W.rowIs (g + 9) 35 4 (fun k => .int .u16 (po k : Int))

section
variable {w W W' : World} {g : Nat} {v : Value} {pf : Nat → Peer} {n dl : Nat} {pr dn br : Nat → Bool} {po : Nat → Nat}

theorem LW.lt (h : LW w W g v pf n dl pr dn br po) : g + 9 < W.heap.size := h.r8.lt

theorem LW.new (h : LW w W g v pf n dl pr dn br po) (hT : Turn [] W W') : LW w W' g v pf n dl pr dn br po :=
  ⟨h.below.trans (hT.below (by have := h.lt; omega) (by simp)), h.st.new hT, hT.row h.r5 (by simp), hT.row h.r6 (by simp), hT.row h.r7 (by simp), hT.row h.r8 (by simp)⟩

/-- A cell of one row of another type, or of a new one, stored. -/
theorem LW.far {b t m k : Nat} {f : Nat → Value} {u : Value} (h : LW w W g v pf n dl pr dn br po) (hr : W.rowIs b t m f) (hb : g + 9 < b) (ht : t = 54) : LW w (W.setCell ⟨b, k, none⟩ u) g v pf n dl pr dn br po := by
  have hT : Turn [b] W (W.setCell ⟨b, k, none⟩ u) := (Turn.refl _ W).setCell (.inl (by simp)) u
  obtain ⟨c, hc, _⟩ := hr
  subst ht
  exact ⟨h.below.trans (hT.below (by have := h.lt; omega) (by simp; omega)), h.st.keep hT (fun k hk => by simp at hk; subst hk; exact ⟨by omega, c, _, _, hc, rfl, by decide⟩), hT.row h.r5 (by simp; omega), hT.row h.r6 (by simp; omega), hT.row h.r7 (by simp; omega), hT.row h.r8 (by simp; omega)⟩

theorem set_row {b t m k : Nat} {f : Nat → Bool} {W : World} (h : W.rowIs b t m (fun j => .bool (f j))) (x : Bool) : (W.setCell ⟨b, k, none⟩ (.bool x)).rowIs b t m (fun j => .bool (updB f k x j)) :=
  (h.set k (.bool x)).congr (fun j _ => by
    unfold updB
    by_cases e : j = k
    · rw [if_pos e, if_pos e]
    · rw [if_neg e, if_neg e])

theorem LW.set5 (h : LW w W g v pf n dl pr dn br po) (k : Nat) (x : Bool) : LW w (W.setCell ⟨g + 6, k, none⟩ (.bool x)) g v pf n dl (updB pr k x) dn br po := by
  have hT : Turn [g + 6] W (W.setCell ⟨g + 6, k, none⟩ (.bool x)) := (Turn.refl _ W).setCell (.inl (by simp)) _
  obtain ⟨c, hc, _⟩ := h.r5
  exact ⟨h.below.trans (hT.below (by have := h.lt; omega) (by simp)), h.st.keep hT (fun k hk => by simp at hk; subst hk; exact ⟨by omega, c, _, _, hc, rfl, by decide⟩), set_row h.r5 x, hT.row h.r6 (by simp), hT.row h.r7 (by simp), hT.row h.r8 (by simp)⟩
theorem LW.set6 (h : LW w W g v pf n dl pr dn br po) (k : Nat) (x : Bool) : LW w (W.setCell ⟨g + 7, k, none⟩ (.bool x)) g v pf n dl pr (updB dn k x) br po := by
  have hT : Turn [g + 7] W (W.setCell ⟨g + 7, k, none⟩ (.bool x)) := (Turn.refl _ W).setCell (.inl (by simp)) _
  obtain ⟨c, hc, _⟩ := h.r6
  exact ⟨h.below.trans (hT.below (by have := h.lt; omega) (by simp)), h.st.keep hT (fun k hk => by simp at hk; subst hk; exact ⟨by omega, c, _, _, hc, rfl, by decide⟩), hT.row h.r5 (by simp), set_row h.r6 x, hT.row h.r7 (by simp), hT.row h.r8 (by simp)⟩
theorem LW.set7 (h : LW w W g v pf n dl pr dn br po) (k : Nat) (x : Bool) : LW w (W.setCell ⟨g + 8, k, none⟩ (.bool x)) g v pf n dl pr dn (updB br k x) po := by
  have hT : Turn [g + 8] W (W.setCell ⟨g + 8, k, none⟩ (.bool x)) := (Turn.refl _ W).setCell (.inl (by simp)) _
  obtain ⟨c, hc, _⟩ := h.r7
  exact ⟨h.below.trans (hT.below (by have := h.lt; omega) (by simp)), h.st.keep hT (fun k hk => by simp at hk; subst hk; exact ⟨by omega, c, _, _, hc, rfl, by decide⟩), hT.row h.r5 (by simp), hT.row h.r6 (by simp), set_row h.r7 x, hT.row h.r8 (by simp)⟩
theorem LW.set8 (h : LW w W g v pf n dl pr dn br po) (k : Nat) (x : Nat) : LW w (W.setCell ⟨g + 9, k, none⟩ (.int .u16 (x : Int))) g v pf n dl pr dn br (updN po k x) := by
  have hT : Turn [g + 9] W (W.setCell ⟨g + 9, k, none⟩ (.int .u16 (x : Int))) := (Turn.refl _ W).setCell (.inl (by simp)) _
  have h8 := (h.r8.set k (.int .u16 (x : Int))).congr (g := fun j => .int .u16 (updN po k x j : Int)) (fun j _ => by
    unfold updN
    by_cases e : j = k
    · rw [if_pos e, if_pos e]
    · rw [if_neg e, if_neg e])
  obtain ⟨c, hc, _⟩ := h.r8
  exact ⟨h.below.trans (hT.below (by have := h.lt; omega) (by simp)), h.st.keep hT (fun k hk => by simp at hk; subst hk; exact ⟨by omega, c, _, _, hc, rfl, by decide⟩), hT.row h.r5 (by simp), hT.row h.r6 (by simp), hT.row h.r7 (by simp), h8⟩

/-- Behind a put. -/
theorem LW.put {v' : Value} {pf' : Nat → Peer} {n' dl' : Nat} (h : LW w W g v pf n dl pr dn br po) (hF : Fr g TY W W') (hS : St W' g v' pf' n' dl') : LW w W' g v' pf' n' dl' pr dn br po :=
  ⟨h.below.trans (hF.below (by have := h.lt; omega)), hS, hF.row h.r5 (by decide), hF.row h.r6 (by decide), hF.row h.r7 (by decide), hF.row h.r8 (by decide)⟩
end

/-- What a round has laid. -/
structure Rd (W : World) (g ab bx tx id port s : Nat) (a b : Int) (d c e : Bool) (key : Int) : Prop where
  ann : W.rowIs ab 54 83 (acell id port d c)
  box : W.rowIs bx 38 6 (opc a b d c e key)
  tim : W.rowIs tx 57 3 (tcell s)
  far : g + 9 < ab ∧ g + 9 < bx ∧ g + 9 < tx

section
variable {W W' : World} {g ab bx tx id port s : Nat} {a b : Int} {d c e : Bool} {key : Int}
theorem Rd.turn {ks : List Nat} (h : Rd W g ab bx tx id port s a b d c e key) (hT : Turn ks W W') (hk : ∀ k ∈ ks, k ≤ g + 9) : Rd W' g ab bx tx id port s a b d c e key :=
  ⟨hT.row h.ann (fun hm => by have := hk _ hm; have := h.far; omega), hT.row h.box (fun hm => by have := hk _ hm; have := h.far; omega), hT.row h.tim (fun hm => by have := hk _ hm; have := h.far; omega), h.far⟩
theorem Rd.set (h : Rd W g ab bx tx id port s a b d c e key) {q k : Nat} (hq : q ≤ g + 9) (u : Value) : Rd (W.setCell ⟨q, k, none⟩ u) g ab bx tx id port s a b d c e key :=
  h.turn (ks := [q]) ((Turn.refl _ W).setCell (.inl (by simp)) u) (by simpa using hq)
theorem Rd.fr (h : Rd W g ab bx tx id port s a b d c e key) (hF : Fr g TY W W') : Rd W' g ab bx tx id port s a b d c e key :=
  ⟨hF.row h.ann (by decide), hF.row h.box (by decide), hF.row h.tim (by decide), h.far⟩
theorem Rd.cells (h : Rd W g ab bx tx id port s a b d c e key) : W.cell? ⟨bx, 2, none⟩ = some (.bool d) ∧ W.cell? ⟨bx, 3, none⟩ = some (.bool c) ∧ W.cell? ⟨bx, 4, none⟩ = some (.bool e) ∧ W.cell? ⟨bx, 5, none⟩ = some (.int .u64 key) :=
  ⟨h.box.cell (by omega), h.box.cell (by omega), h.box.cell (by omega), h.box.cell (by omega)⟩
end

set_option maxHeartbeats 2000000 in
set_option maxRecDepth 100000 in
theorem ann_at (id port : Nat) (d c : Bool) : ∀ k, k < 83 → ((((((Ybad.zeroCells54.setIfInBounds 40 (Value.int IntKind.u64 0)).setIfInBounds 41 (Value.int IntKind.u64 0)).setIfInBounds 42 (Value.pointer none)).setIfInBounds 43 (Value.int IntKind.u16 (port : Int))).setIfInBounds 77 (Value.bool d)).setIfInBounds 78 (Value.bool c))[k]? = some (if k = 20 then .int .u8 0 else acell id port d c k) := fun k hk =>
  match k, hk with
  | 0, _ => by kernel_rfl
  | 1, _ => by kernel_rfl
  | 2, _ => by kernel_rfl
  | 3, _ => by kernel_rfl
  | 4, _ => by kernel_rfl
  | 5, _ => by kernel_rfl
  | 6, _ => by kernel_rfl
  | 7, _ => by kernel_rfl
  | 8, _ => by kernel_rfl
  | 9, _ => by kernel_rfl
  | 10, _ => by kernel_rfl
  | 11, _ => by kernel_rfl
  | 12, _ => by kernel_rfl
  | 13, _ => by kernel_rfl
  | 14, _ => by kernel_rfl
  | 15, _ => by kernel_rfl
  | 16, _ => by kernel_rfl
  | 17, _ => by kernel_rfl
  | 18, _ => by kernel_rfl
  | 19, _ => by kernel_rfl
  | 20, _ => by kernel_rfl
  | 21, _ => by kernel_rfl
  | 22, _ => by kernel_rfl
  | 23, _ => by kernel_rfl
  | 24, _ => by kernel_rfl
  | 25, _ => by kernel_rfl
  | 26, _ => by kernel_rfl
  | 27, _ => by kernel_rfl
  | 28, _ => by kernel_rfl
  | 29, _ => by kernel_rfl
  | 30, _ => by kernel_rfl
  | 31, _ => by kernel_rfl
  | 32, _ => by kernel_rfl
  | 33, _ => by kernel_rfl
  | 34, _ => by kernel_rfl
  | 35, _ => by kernel_rfl
  | 36, _ => by kernel_rfl
  | 37, _ => by kernel_rfl
  | 38, _ => by kernel_rfl
  | 39, _ => by kernel_rfl
  | 40, _ => by kernel_rfl
  | 41, _ => by kernel_rfl
  | 42, _ => by kernel_rfl
  | 43, _ => by kernel_rfl
  | 44, _ => by kernel_rfl
  | 45, _ => by kernel_rfl
  | 46, _ => by kernel_rfl
  | 47, _ => by kernel_rfl
  | 48, _ => by kernel_rfl
  | 49, _ => by kernel_rfl
  | 50, _ => by kernel_rfl
  | 51, _ => by kernel_rfl
  | 52, _ => by kernel_rfl
  | 53, _ => by kernel_rfl
  | 54, _ => by kernel_rfl
  | 55, _ => by kernel_rfl
  | 56, _ => by kernel_rfl
  | 57, _ => by kernel_rfl
  | 58, _ => by kernel_rfl
  | 59, _ => by kernel_rfl
  | 60, _ => by kernel_rfl
  | 61, _ => by kernel_rfl
  | 62, _ => by kernel_rfl
  | 63, _ => by kernel_rfl
  | 64, _ => by kernel_rfl
  | 65, _ => by kernel_rfl
  | 66, _ => by kernel_rfl
  | 67, _ => by kernel_rfl
  | 68, _ => by kernel_rfl
  | 69, _ => by kernel_rfl
  | 70, _ => by kernel_rfl
  | 71, _ => by kernel_rfl
  | 72, _ => by kernel_rfl
  | 73, _ => by kernel_rfl
  | 74, _ => by kernel_rfl
  | 75, _ => by kernel_rfl
  | 76, _ => by kernel_rfl
  | 77, _ => by kernel_rfl
  | 78, _ => by kernel_rfl
  | 79, _ => by kernel_rfl
  | 80, _ => by kernel_rfl
  | 81, _ => by kernel_rfl
  | 82, _ => by kernel_rfl
  | k + 83, h => absurd h (by omega)

/-- The announce, as it is boxed. -/
theorem ann_new (W : World) (id port : Nat) (d c : Bool) : (W.alloc (.cells ((((((Ybad.zeroCells54.setIfInBounds 40 (Value.int IntKind.u64 0)).setIfInBounds 41 (Value.int IntKind.u64 0)).setIfInBounds 42 (Value.pointer none)).setIfInBounds 43 (Value.int IntKind.u16 (port : Int))).setIfInBounds 77 (Value.bool d)).setIfInBounds 78 (Value.bool c)) 54)).rowIs W.heap.size 54 83 (fun k => if k = 20 then .int .u8 0 else acell id port d c k) :=
  ⟨_, World.alloc_heap_new W _, by simp, fun k hk => ann_at id port d c k hk⟩

theorem ann_done {W : World} {ab id port : Nat} {d c : Bool} (h : W.rowIs ab 54 83 (fun k => if k = 20 then .int .u8 0 else acell id port d c k)) : (W.setCell ⟨ab, 20, none⟩ (.int .u8 ((id : Int) + 1))).rowIs ab 54 83 (acell id port d c) :=
  (h.set 20 (.int .u8 ((id : Int) + 1))).congr (fun k _ => by
    by_cases e : k = 20
    · rw [if_pos e, e]; rfl
    · rw [if_neg e, if_neg e])

end Go.Proofs.YbulkbdskDoor
