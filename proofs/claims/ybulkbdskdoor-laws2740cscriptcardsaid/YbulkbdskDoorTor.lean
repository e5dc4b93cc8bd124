/-
  The torrent in memory: its peers, its index, its four maps, its counts.
-/
import Derived.Test.YbulkbdskDoorCount
import Derived.Test.YbulkbdskDoorRemove
namespace Go.Proofs.YbulkbdskDoor
open Go Go.RowKit

/-- A peer. -/
structure Peer where
  id : Nat
  port : Nat
  done : Bool
  br : Bool
  s : Nat

/-- A peer's 61 cells. -/
def pcell (p : Peer) (k : Nat) : Value :=
  if k = 0 then .int .u8 ((p.id : Int) + 1) else if k < 52 then .int .u8 0 else if k < 54 then .int .u64 0 else if k = 54 then .pointer none else if k = 55 then .int .u16 (p.port : Int)
  else if k = 56 then .bool p.done else if k = 57 then .int .u64 (p.s : Int) else if k = 58 then .int .i64 0 else if k = 59 then .pointer none else .bool p.br

def pcs (p : Peer) : List Value := (List.range 61).map (pcell p)

theorem pcs_length (p : Peer) : (pcs p).length = 61 := by simp [pcs]
theorem pcs_at (p : Peer) {k : Nat} (hk : k < 61) : (pcs p)[k]? = some (pcell p k) := by simp [pcs, hk]
theorem pcell_one (p : Peer) (k : Nat) : (pcell p k).oneCell' = true := by
  unfold pcell
  repeat' split
  all_goals rfl
theorem pcs_one (p : Peer) : (pcs p).toArray.all (·.oneCell') = true :=
  all_oneCell_toArray (fun v hv => by
    obtain ⟨k, _, rfl⟩ := List.mem_map.1 hv
    exact pcell_one p k)

/-- The peers' cells, one after the other. -/
def prow (pf : Nat → Peer) (k : Nat) : Value := pcell (pf (k / 61)) (k % 61)
theorem prow_at (pf : Nat → Peer) (i : Nat) {k : Nat} (hk : k < 61) : prow pf (i * 61 + k) = pcell (pf i) k := by
  unfold prow
  rw [show (i * 61 + k) / 61 = i by omega, show (i * 61 + k) % 61 = k by omega]

theorem size77 : (Ybad.prog.info? 77).map (·.size) = some 61 := by kernel_rfl
theorem size50 : (Ybad.prog.info? 50).map (·.size) = some 20 := by kernel_rfl

/-- A row, behind a store of many cells. -/
theorem rowIs_setCells {b t n : Nat} : ∀ {cs : List Value} {o : Nat} {w : World} {f : Nat → Value}, w.rowIs b t n f → (w.setCells b o cs).rowIs b t n (fun k => if o ≤ k then (cs[k - o]?).getD (f k) else f k)
  | [], o, w, f, h => h.congr (fun k _ => by simp)
  | v :: r, o, w, f, h => by
    rw [World.setCells]
    refine (rowIs_setCells (h.set o v)).congr (fun k _ => ?_)
    by_cases h1 : o + 1 ≤ k
    · rw [if_pos h1, if_pos (show o ≤ k by omega), if_neg (show ¬ k = o by omega), show k - o = (k - (o + 1)) + 1 by omega, List.getElem?_cons_succ]
    · rw [if_neg h1]
      by_cases h2 : k = o
      · subst h2
        simp
      · rw [if_neg h2, if_neg (by omega)]

theorem Turn.setCells {ks : List Nat} {a : World} {b : Nat} : ∀ {cs : List Value} {o : Nat} {w : World}, Turn ks a w → (b ∈ ks ∨ a.heap.size ≤ b) → Turn ks a (w.setCells b o cs)
  | [], _, _, h, _ => h
  | v :: r, o, w, h, hb => by
    rw [World.setCells]
    exact Turn.setCells (h.setCell (p := ⟨b, o, none⟩) hb v) hb

/-- The peers' slice: where it lies. -/
structure Slot (w : World) (tb : Nat) (v : Value) (n : Nat) (pb cap : Nat) (F : Nat → Value) (pf : Nat → Peer) : Prop where
  val : v = .slice (some ⟨pb, 0, none⟩) n cap
  above : tb < pb
  room : n ≤ cap
  max : cap ≤ maxLen
  row : w.rowIs pb 77 (cap * 61) F
  at' : ∀ i, i < n → ∀ k, k < 61 → F (i * 61 + k) = pcell (pf i) k

theorem Sl.slot {w : World} {tb n : Nat} {v : Value} {pf : Nat → Peer} (h : Sl w tb 77 61 v n (prow pf)) (hn : 0 < n) : ∃ pb cap F, Slot w tb v n pb cap F pf := by
  obtain ⟨pb, cap, F, h1, h2, h3, h4, h5, h6⟩ := h.pos hn
  exact ⟨pb, cap, F, h1, h2, h3, h4, h5, fun i hi k hk => by rw [h6 _ (by omega), prow_at _ _ hk]⟩

theorem Slot.sl {w : World} {tb n pb cap : Nat} {v : Value} {F : Nat → Value} {pf : Nat → Peer} (h : Slot w tb v n pb cap F pf) : Sl w tb 77 61 v n (prow pf) :=
  .inr ⟨pb, cap, F, h.val, h.above, h.room, h.max, h.row, fun k hk => by
    have := h.at' (k / 61) (by omega) (k % 61) (by omega)
    rw [show k / 61 * 61 + k % 61 = k by omega] at this
    exact this⟩

theorem Slot.range {w : World} {tb n pb cap : Nat} {v : Value} {F : Nat → Value} {pf : Nat → Peer} (h : Slot w tb v n pb cap F pf) {i : Nat} (hi : i < n) : w.rangeAt pb (i * 61) (pcs (pf i)) := by
  have := h.room
  refine row_range h.row (i * 61) _ (by rw [pcs_length]; omega) (fun k hk => ?_)
  rw [pcs_length] at hk
  rw [pcs_at _ hk, h.at' i hi k hk]

theorem Slot.cell {w : World} {tb n pb cap : Nat} {v : Value} {F : Nat → Value} {pf : Nat → Peer} (h : Slot w tb v n pb cap F pf) {i k : Nat} (hi : i < n) (hk : k < 61) : w.cell? ⟨pb, i * 61 + k, none⟩ = some (pcell (pf i) k) := by
  have := h.room
  rw [h.row.cell (by omega), h.at' i hi k hk]

theorem Slot.there {w : World} {tb n pb cap : Nat} {v : Value} {F : Nat → Value} {pf : Nat → Peer} (h : Slot w tb v n pb cap F pf) {i : Nat} (hi : i < n) : w.there pb (i * 61) 61 := fun k hk => by
  have := h.room
  exact ⟨by rw [h.row.cell (by omega)]; rfl, h.row.frozen _⟩

theorem Slot.of {w w' : World} {tb n pb cap : Nat} {v : Value} {F : Nat → Value} {pf : Nat → Peer} (h : Slot w tb v n pb cap F pf) (hr : w'.rowIs pb 77 (cap * 61) F) : Slot w' tb v n pb cap F pf :=
  ⟨h.val, h.above, h.room, h.max, hr, h.at'⟩

/-- A peer, stored over the i-th. -/
theorem Slot.put {w : World} {tb n pb cap : Nat} {v : Value} {F : Nat → Value} {pf : Nat → Peer} (h : Slot w tb v n pb cap F pf) {i : Nat} (hi : i < n) (p : Peer) :
    Slot (w.setCells pb (i * 61) (pcs p)) tb v n pb cap (fun k => if i * 61 ≤ k then ((pcs p)[k - i * 61]?).getD (F k) else F k) (fun j => if j = i then p else pf j) := by
  refine ⟨h.val, h.above, h.room, h.max, rowIs_setCells h.row, fun j hj k hk => ?_⟩
  by_cases e : j = i
  · subst e
    rw [if_pos rfl, if_pos (by omega), show j * 61 + k - j * 61 = k by omega, pcs_at _ hk]
    rfl
  · rw [if_neg e]
    by_cases h1 : i * 61 ≤ j * 61 + k
    · rw [if_pos h1, List.getElem?_eq_none (by rw [pcs_length]; omega)]
      exact h.at' j hj k hk
    · rw [if_neg h1]
      exact h.at' j hj k hk

theorem id_range {w : World} {b o : Nat} {p : Peer} (h : ∀ k, k < 61 → w.cell? ⟨b, o + k, none⟩ = some (pcell p k)) : w.rangeAt b o (idA p.id).toList := fun j v hv => by
  have hj : j < 20 := by
    have := (List.getElem?_eq_some_iff.1 hv).1
    simpa [idA] using this
  rw [h j (by omega), ← hv]
  obtain rfl | h0 := Nat.eq_zero_or_pos j
  · rfl
  · unfold pcell
    rw [if_neg (by omega), if_pos (by omega)]
    obtain rfl | rfl | rfl | rfl | rfl | rfl | rfl | rfl | rfl | rfl | rfl | rfl | rfl | rfl | rfl | rfl | rfl | rfl | rfl : j = 1 ∨ j = 2 ∨ j = 3 ∨ j = 4 ∨ j = 5 ∨ j = 6 ∨ j = 7 ∨ j = 8 ∨ j = 9 ∨ j = 10 ∨ j = 11 ∨ j = 12 ∨ j = 13 ∨ j = 14 ∨ j = 15 ∨ j = 16 ∨ j = 17 ∨ j = 18 ∨ j = 19 := by omega
    all_goals rfl

/-- A peer's id, its endpoint, as they are loaded. -/
theorem load_id {w : World} {b o : Nat} {p : Peer} (h : ∀ k, k < 61 → w.cell? ⟨b, o + k, none⟩ = some (pcell p k)) : (Instr.loadAt 50 (.pointer (some ⟨b, o, none⟩))).run Ybad.prog w = .ok (idV p.id) w :=
  run_loadAt_mid w b o 50 (idA p.id).toList _ (id_range h) Ybad.underlying50 rfl size50
theorem load_ep {w : World} {b o : Nat} {p : Peer} (h : ∀ k, k < 61 → w.cell? ⟨b, o + k, none⟩ = some (pcell p k)) : (Instr.loadAt 48 (.pointer (some ⟨b, o + 52, none⟩))).run Ybad.prog w = .ok (epV p.port) w := by
  refine run_loadAt_mid w b (o + 52) 48 [.int .u64 0, .int .u64 0, .pointer none, .int .u16 (p.port : Int)] _ (fun j v hv => ?_) Ybad.underlying48 rfl size48
  have hj : j < 4 := (List.getElem?_eq_some_iff.1 hv).1
  have := h (52 + j) (by omega)
  rw [← Nat.add_assoc] at this
  rw [this, ← hv]
  obtain rfl | rfl | rfl | rfl : j = 0 ∨ j = 1 ∨ j = 2 ∨ j = 3 := by omega
  all_goals rfl

structure Tor (w : World) (g : Nat) (tf : Nat → Value) (pf : Nat → Peer) (n nx c dl nb ns : Nat) (fi fe : Nat → Option Int) (ni ne : Nat) : Prop where
  ix : IxA w (g + 4) tf nx
  ps : Sl w (g + 4) 77 61 (tf 0) n (prow pf)
  t8 : tf 8 = .map (some (g + 1))
  t9 : tf 9 = .map (some (g + 2))
  t12 : tf 12 = .map (some (g + 3))
  t16 : tf 16 = .map (some g)
  t10 : tf 10 = .int .i64 (c : Int)
  t11 : tf 11 = .int .i64 (dl : Int)
  mi : FM idV 4 .i64 w (g + 1) fi ni
  me : FM epV 3 .i64 w (g + 2) fe ne
  mb : FM asV 1 .i64 w (g + 3) (fun _ => if nb = 0 then none else some (nb : Int)) (if nb = 0 then 0 else 1)
  ms : SM w g ns
  ok : ∀ j, j < n → (pf j).id < 4 ∧ (pf j).port < 3 ∧ (pf j).s < 1024
  z0 : Z0 w
  lo : 1 < g
  small : n ≤ 3

section
variable {w w' : World} {g : Nat} {tf tf' : Nat → Value} {pf pf' : Nat → Peer} {n nx n' nx' c dl nb ns : Nat} {fi fe : Nat → Option Int} {ni ne : Nat}

theorem Tor.row (h : Tor w g tf pf n nx c dl nb ns fi fe ni ne) : w.rowIs (g + 4) 75 17 tf := h.ix.row

theorem Tor.new (h : Tor w g tf pf n nx c dl nb ns fi fe ni ne) (hT : Turn [] w w') : Tor w' g tf pf n nx c dl nb ns fi fe ni ne where
  ix := h.ix.turn hT (by simp)
  ps := h.ps.turn hT (by simp)
  t8 := h.t8
  t9 := h.t9
  t12 := h.t12
  t16 := h.t16
  t10 := h.t10
  t11 := h.t11
  mi := h.mi.turn hT (by simp)
  me := h.me.turn hT (by simp)
  mb := h.mb.turn hT (by simp)
  ms := h.ms.turn hT (by simp)
  ok := h.ok
  z0 := h.z0.turn hT (by simp)
  lo := h.lo
  small := h.small

/-- One of the four maps turned, or more. -/
theorem Tor.maps {ks : List Nat} {nb' ns' ni' ne' : Nat} {fi' fe' : Nat → Option Int} (h : Tor w g tf pf n nx c dl nb ns fi fe ni ne) (hT : Turn ks w w') (hk : ∀ k ∈ ks, g ≤ k ∧ k < g + 4)
    (mi : FM idV 4 .i64 w' (g + 1) fi' ni') (me : FM epV 3 .i64 w' (g + 2) fe' ne') (mb : FM asV 1 .i64 w' (g + 3) (fun _ => if nb' = 0 then none else some (nb' : Int)) (if nb' = 0 then 0 else 1)) (ms : SM w' g ns') :
    Tor w' g tf pf n nx c dl nb' ns' fi' fe' ni' ne' where
  ix := h.ix.of (fun b o hb ho _ => hT.obj ho (fun hm => by have := hk b hm; omega)) (hT.row h.row (fun hm => by have := hk _ hm; omega)) (fun _ _ _ => rfl)
  ps := h.ps.turn hT (fun b hb hm => by have := (h.ps.block hb).1; have := hk b hm; omega)
  t8 := h.t8
  t9 := h.t9
  t12 := h.t12
  t16 := h.t16
  t10 := h.t10
  t11 := h.t11
  mi := mi
  me := me
  mb := mb
  ms := ms
  ok := h.ok
  z0 := h.z0.turn hT (fun hm => by have := hk _ hm; have := h.lo; omega)
  lo := h.lo
  small := h.small

/-- The peers' row turned. -/
theorem Tor.peers {ks : List Nat} (h : Tor w g tf pf n nx c dl nb ns fi fe ni ne) (hT : Turn ks w w') (hk : ∀ k ∈ ks, ∃ c fr, w.heap[k]? = some (.cells c 77 fr)) (hs : Sl w' (g + 4) 77 61 (tf 0) n (prow pf'))
    (ok : ∀ j, j < n → (pf' j).id < 4 ∧ (pf' j).port < 3 ∧ (pf' j).s < 1024) (h1 : 1 ∉ ks) : Tor w' g tf pf' n nx c dl nb ns fi fe ni ne where
  ix := h.ix.turn hT (fun k hm o ho => by obtain ⟨c, fr, hc⟩ := hk k hm; rw [hc] at ho; cases ho; rfl)
  ps := hs
  t8 := h.t8
  t9 := h.t9
  t12 := h.t12
  t16 := h.t16
  t10 := h.t10
  t11 := h.t11
  mi := h.mi.of (fun es clock hm => hT.obj hm (fun hk' => by obtain ⟨c, fr, hc⟩ := hk _ hk'; rw [hc] at hm; cases hm))
  me := h.me.of (fun es clock hm => hT.obj hm (fun hk' => by obtain ⟨c, fr, hc⟩ := hk _ hk'; rw [hc] at hm; cases hm))
  mb := h.mb.of (fun es clock hm => hT.obj hm (fun hk' => by obtain ⟨c, fr, hc⟩ := hk _ hk'; rw [hc] at hm; cases hm))
  ms := by
    obtain ⟨clock, ⟨e1, hm⟩ | ⟨e1, born, hm⟩⟩ := h.ms
    · exact ⟨clock, .inl ⟨e1, hT.obj hm (fun hk' => by obtain ⟨c, fr, hc⟩ := hk _ hk'; rw [hc] at hm; cases hm)⟩⟩
    · exact ⟨clock, .inr ⟨e1, born, hT.obj hm (fun hk' => by obtain ⟨c, fr, hc⟩ := hk _ hk'; rw [hc] at hm; cases hm)⟩⟩
  ok := ok
  z0 := h.z0.turn hT h1
  lo := h.lo
  small := h.small

/-- Behind a call of the Index. -/
theorem Tor.index (h : Tor w g tf pf n nx c dl nb ns fi fe ni ne) (hF : Fr (g + 4) TX w w') (hx : IxA w' (g + 4) tf' nx') (ht : ∀ k, k = 0 ∨ 7 ≤ k → tf' k = tf k) : Tor w' g tf' pf n nx' c dl nb ns fi fe ni ne where
  ix := hx
  ps := by rw [ht 0 (.inl rfl)]; exact h.ps.fr hF (by decide)
  t8 := by rw [ht _ (.inr (by omega))]; exact h.t8
  t9 := by rw [ht _ (.inr (by omega))]; exact h.t9
  t12 := by rw [ht _ (.inr (by omega))]; exact h.t12
  t16 := by rw [ht _ (.inr (by omega))]; exact h.t16
  t10 := by rw [ht _ (.inr (by omega))]; exact h.t10
  t11 := by rw [ht _ (.inr (by omega))]; exact h.t11
  mi := h.mi.fr hF (by omega)
  me := h.me.fr hF (by omega)
  mb := h.mb.fr hF (by omega)
  ms := h.ms.fr hF (by omega)
  ok := h.ok
  z0 := by
    have h0 := h.z0
    unfold Z0 at h0 ⊢
    rw [← h0]
    have hb := (hF.below (by have := h.row.lt; omega)).block 1 (by have := h.lo; omega)
    exact World.cell?_of_block (a := ⟨1, 0, none⟩) hb
  lo := h.lo
  small := h.small

/-- One of the torrent's counts stored. -/
theorem Tor.count (h : Tor w g tf pf n nx c dl nb ns fi fe ni ne) {k c' dl' : Nat} {u : Value} (hk : (k = 10 ∧ u = .int .i64 (c' : Int) ∧ dl' = dl) ∨ (k = 11 ∧ u = .int .i64 (dl' : Int) ∧ c' = c)) : Tor (w.setCell ⟨g + 4, k, none⟩ u) g (fun j => if j = k then u else tf j) pf n nx c' dl' nb ns fi fe ni ne := by
  have hT : Turn [g + 4] w (w.setCell ⟨g + 4, k, none⟩ u) := (Turn.refl _ w).setCell (.inl (by simp)) u
  exact {
    ix := h.ix.of (fun b o hb ho _ => hT.obj ho (by simp; omega)) (h.row.set k u) (fun j h1 h2 => if_neg (by omega))
    ps := by
      show Sl _ _ _ _ (if 0 = k then u else tf 0) _ _
      rw [if_neg (by omega)]
      exact h.ps.turn hT (fun b hb hm => by have := (h.ps.block hb).1; simp at hm; omega)
    t8 := (if_neg (by omega)).trans h.t8
    t9 := (if_neg (by omega)).trans h.t9
    t12 := (if_neg (by omega)).trans h.t12
    t16 := (if_neg (by omega)).trans h.t16
    t10 := by
      rcases hk with ⟨rfl, rfl, _⟩ | ⟨rfl, _, rfl⟩
      · exact if_pos rfl
      · exact (if_neg (by omega)).trans h.t10
    t11 := by
      rcases hk with ⟨rfl, _, rfl⟩ | ⟨rfl, rfl, _⟩
      · exact (if_neg (by omega)).trans h.t11
      · exact if_pos rfl
    mi := h.mi.turn hT (by simp)
    me := h.me.turn hT (by simp)
    mb := h.mb.turn hT (by simp)
    ms := h.ms.turn hT (by simp)
    ok := h.ok
    z0 := h.z0.turn hT (by simp)
    lo := h.lo
    small := h.small }
end

end Go.Proofs.YbulkbdskDoor
