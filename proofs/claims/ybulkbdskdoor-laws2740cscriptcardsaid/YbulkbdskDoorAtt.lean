/-
  A peer's endpoint turned: taken off the map and the counts, laid anew.
-/
import Derived.Test.YbulkbdskDoorGrow
import Derived.Test.YbulkbdskDoorMark
namespace Go.Proofs.YbulkbdskDoor
open Go Go.RowKit

theorem upd_upd (pf : Nat → Peer) (i : Nat) (p q : Peer) : upd (upd pf i p) i q = upd pf i q := by
  funext j
  unfold upd
  by_cases e : j = i
  · rw [if_pos e, if_pos e]
  · rw [if_neg e, if_neg e, if_neg e]
theorem upd_at (pf : Nat → Peer) (i : Nat) (p : Peer) : upd pf i p i = p := if_pos rfl
theorem upd_ne (pf : Nat → Peer) {i j : Nat} (p : Peer) (h : j ≠ i) : upd pf i p j = pf j := if_neg h
theorem upd_id (pf : Nat → Peer) (i : Nat) (p : Peer) (h : pf i = p) : upd pf i p = pf := by
  funext j
  unfold upd
  by_cases e : j = i
  · rw [if_pos e, e, h]
  · rw [if_neg e]

/-- Some of a peer's cells stored anew. -/
theorem Slot.part {w : World} {tb n pb cap : Nat} {v : Value} {F : Nat → Value} {pf : Nat → Peer} (h : Slot w tb v n pb cap F pf) {i : Nat} (o : Nat) (cs : List Value) (p : Peer) (hp : ∀ k, k < 61 → pcell p k = if o ≤ k then (cs[k - o]?).getD (pcell (pf i) k) else pcell (pf i) k) (hl : o + cs.length ≤ 61) :
    Slot (w.setCells pb (i * 61 + o) cs) tb v n pb cap (fun k => if i * 61 + o ≤ k then (cs[k - (i * 61 + o)]?).getD (F k) else F k) (upd pf i p) := by
  refine ⟨h.val, h.above, h.room, h.max, rowIs_setCells h.row, fun j hj k hk => ?_⟩
  by_cases e : j = i
  · subst e
    rw [upd_at, hp k hk]
    by_cases h1 : o ≤ k
    · rw [if_pos h1, if_pos (by omega), show j * 61 + k - (j * 61 + o) = k - o by omega, h.at' j hj k hk]
    · rw [if_neg h1, if_neg (by omega), h.at' j hj k hk]
  · rw [upd_ne _ _ e, ← h.at' j hj k hk]
    by_cases h1 : i * 61 + o ≤ j * 61 + k
    · rw [if_pos h1, List.getElem?_eq_none (by omega)]
      rfl
    · rw [if_neg h1]

theorem Tor.part {W : World} {g : Nat} {tf : Nat → Value} {pf : Nat → Peer} {n nx c dl nb ns : Nat} {fi fe : Nat → Option Int} {ni ne pb cap : Nat} {F : Nat → Value} (h : Tor W g tf pf n nx c dl nb ns fi fe ni ne) (S : Slot W (g + 4) (tf 0) n pb cap F pf) {i : Nat} (o : Nat) (cs : List Value) (p : Peer)
    (hp : ∀ k, k < 61 → pcell p k = if o ≤ k then (cs[k - o]?).getD (pcell (pf i) k) else pcell (pf i) k) (hl : o + cs.length ≤ 61) (hk : p.id < 4 ∧ p.port < 3 ∧ p.s < 1024) :
    Tor (W.setCells pb (i * 61 + o) cs) g tf (upd pf i p) n nx c dl nb ns fi fe ni ne ∧ Fr g TY W (W.setCells pb (i * 61 + o) cs) := by
  have hT : Turn [pb] W (W.setCells pb (i * 61 + o) cs) := (Turn.refl [pb] W).setCells (.inl (by simp))
  obtain ⟨cc, hcc, _⟩ := S.row
  refine ⟨h.peers hT (fun k hk => by simp at hk; subst hk; exact ⟨cc, _, hcc⟩) (S.part o cs p hp hl).sl (fun j hj => ?_) (by have := S.above; have := h.lo; simp; omega), Fr.ofTurn hT (by have := S.above; simp; omega) (fun k hk c t fr hc => by simp at hk; subst hk; rw [hcc] at hc; cases hc; simp)⟩
  by_cases e : j = i
  · rw [e, upd_at]; exact hk
  · rw [upd_ne _ _ e]; exact h.ok j hj

/-- The peer with another endpoint. -/
def moved (p : Peer) (port : Nat) : Peer := { p with port := port }

theorem moved_cells (p : Peer) (port : Nat) : ∀ k, k < 61 → pcell (moved p port) k = if 52 ≤ k then (([.int .u64 0, .int .u64 0, .pointer none, .int .u16 (port : Int)] : List Value)[k - 52]?).getD (pcell p k) else pcell p k := fun k hk => by
  by_cases h : 52 ≤ k
  · rw [if_pos h]
    obtain rfl | rfl | rfl | rfl | rfl | rfl | rfl | rfl | rfl : k = 52 ∨ k = 53 ∨ k = 54 ∨ k = 55 ∨ k = 56 ∨ k = 57 ∨ k = 58 ∨ k = 59 ∨ k = 60 := by omega
    all_goals rfl
  · rw [if_neg h]
    unfold pcell moved
    by_cases h0 : k = 0
    · rw [if_pos h0, if_pos h0]
    · rw [if_neg h0, if_neg h0, if_pos (by omega), if_pos (by omega)]

/-- The state ahead of the endpoint's turn: the peer known, or new. -/
def Mid2 (kn : Bool) (W : World) (g : Nat) (v : Value) (pf : Nat → Peer) (n i dl : Nat) : Prop :=
  (kn = true ∧ i < n ∧ St W g v pf n dl) ∨ (kn = false ∧ ∃ m, n = m + 1 ∧ Det W g v pf m i dl)

theorem Mid2.tor {kn : Bool} {W : World} {g : Nat} {v : Value} {pf : Nat → Peer} {n i dl : Nat} (h : Mid2 kn W g v pf n i dl) : i < n ∧ ∃ tf nb ns fi fe ni ne, tf 0 = v ∧ Tor W g tf pf n n (cnt Peer.done pf n) dl nb ns fi fe ni ne := by
  rcases h with ⟨_, hi, tf, fi, fe, hv, T, _⟩ | ⟨_, m, rfl, hi, tf, fi, fe, nbd, hv, T, _⟩
  · exact ⟨hi, tf, _, _, fi, fe, _, _, hv, T⟩
  · exact ⟨hi, tf, _, _, fi, fe, _, _, hv, T⟩

theorem Mid2.new {kn : Bool} {W W' : World} {g : Nat} {v : Value} {pf : Nat → Peer} {n i dl : Nat} (h : Mid2 kn W g v pf n i dl) (hT : Turn [] W W') : Mid2 kn W' g v pf n i dl := by
  rcases h with ⟨h1, hi, h2⟩ | ⟨h1, m, h2, h3⟩
  · exact .inl ⟨h1, hi, h2.new hT⟩
  · exact .inr ⟨h1, m, h2, h3.new hT⟩

theorem Mid2.slot {kn : Bool} {W : World} {g : Nat} {v : Value} {pf : Nat → Peer} {n i dl : Nat} (h : Mid2 kn W g v pf n i dl) : ∃ pb cap F, Slot W (g + 4) v n pb cap F pf ∧ v = .slice (some ⟨pb, 0, none⟩) n cap ∧ n ≤ cap ∧ n ≤ 3 ∧ W.cell? ⟨g + 4, 0, none⟩ = some v := by
  obtain ⟨hi, tf, nb, ns, fi, fe, ni, ne, rfl, T⟩ := h.tor
  obtain ⟨pb, cap, F, S⟩ := T.ps.slot (by omega)
  exact ⟨pb, cap, F, S, S.val, S.room, T.small, T.row.cell (by omega)⟩

/-- The peer's endpoint laid in the slice. -/
theorem Det.move {W : World} {g m i dl port pb cap : Nat} {v : Value} {pf : Nat → Peer} (h : Det W g v pf m i dl) (hp : port < 3) (hv : v = .slice (some ⟨pb, 0, none⟩) (m + 1) cap) :
    Det (W.setCells pb (i * 61 + 52) [.int .u64 0, .int .u64 0, .pointer none, .int .u16 (port : Int)]) g v (upd pf i (moved (pf i) port)) m i dl ∧ Fr g TY W (W.setCells pb (i * 61 + 52) [.int .u64 0, .int .u64 0, .pointer none, .int .u16 (port : Int)]) ∧ W.there pb (i * 61 + 52) 4 := by
  obtain ⟨hi, tf, fi, fe, nbd, ht, T, hli, hle, hc⟩ := h
  obtain ⟨F, S⟩ := T.at (ht.trans hv) (by omega)
  obtain ⟨T', hF⟩ := T.part S (i := i) 52 [.int .u64 0, .int .u64 0, .pointer none, .int .u16 (port : Int)] (moved (pf i) port) (moved_cells _ _) (by simp) ⟨(T.ok i hi).1, hp, (T.ok i hi).2.2⟩
  have hd : ∀ f : Peer → Bool, f (moved (pf i) port) = f (pf i) → cnt f (upd pf i (moved (pf i) port)) (m + 1) = cnt f pf (m + 1) := fun f hf => cnt_congr f (fun j _ => by
    by_cases e : j = i
    · rw [e, upd_at, hf]
    · rw [upd_ne _ _ e])
  refine ⟨⟨hi, tf, fi, fe, nbd, ht, ?_, hli.upd _ rfl, ⟨fun j hj e => ?_, fun x u hu => ?_⟩, ?_⟩, hF, fun k hk => ?_⟩
  · rw [hd Peer.done rfl]
    exact T'
  · rw [upd_ne _ _ e]
    exact hle.1 j hj e
  · obtain ⟨j, hj, hji, hju, hk⟩ := hle.2 x u hu
    exact ⟨j, hj, hji, hju, by rw [upd_ne _ _ hji]; exact hk⟩
  · rw [hd Peer.br rfl, hc, upd_at]
    rfl
  · have := S.room
    rw [Nat.add_assoc]
    exact ⟨by rw [S.row.cell (by omega)]; rfl, S.row.frozen _⟩

/-- .. and in the map and the counts: three steps. -/
def Det2 (W : World) (g : Nat) (v : Value) (pf : Nat → Peer) (m i dl ns nb : Nat) : Prop :=
  i < m + 1 ∧ ∃ tf fi fe, tf 0 = v ∧ Tor W g tf pf (m + 1) (m + 1) (cnt Peer.done pf (m + 1)) dl nb ns fi fe (m + 1) (m + 1) ∧ Look Peer.id pf (m + 1) fi ∧ Look Peer.port pf (m + 1) fe ∧ nb ≤ 3 ∧ (ns = m + 1 ∨ ns = m) ∧ cnt Peer.br pf (m + 1) = nb + (if (pf i).br then 1 else 0)

theorem Det.lay {W : World} {g m i dl : Nat} {v : Value} {pf : Nat → Peer} (h : Det W g v pf m i dl) (hne : ∀ j, j < m + 1 → j ≠ i → (pf j).port ≠ (pf i).port) :
    ∃ W', (Instr.mapUpdate 72 (.map (some (g + 2))) (epV (pf i).port) (.int .i64 (i : Int))).run Ybad.prog W.drew = .ok () W' ∧ Fr g TY W W' ∧ ∃ nb, Det2 W' g v pf m i dl m nb := by
  obtain ⟨hi, tf, fi, fe, nbd, ht, T, hli, hle, hc⟩ := h
  obtain ⟨W1, e1, t1, m1⟩ := (T.me.turn ((Turn.refl [] W).drew) (by simp)).put eps_ok Ybad.underlying72 (T.ok i hi).2.1 (i : Int)
  have hf : fe (pf i).port = none := hle.none hne
  rw [hf] at m1
  have t1' : Turn [g + 2] W W1 := ((Turn.refl [g + 2] W).drew).trans t1
  obtain ⟨es, clock, hm, _⟩ := T.me
  have hlp := hle.attach hi (pf i) hne
  rw [upd_id _ _ _ rfl] at hlp
  have a2 := cnt_le Peer.br pf (m + 1)
  have := T.small
  exact ⟨W1, e1, frM t1' (by omega) hm, nbd, hi, tf, fi, put1 fe (pf i).port i, ht, T.maps t1' (by simp) (T.mi.turn t1' (by simp)) m1 (T.mb.turn t1' (by simp)) (T.ms.turn t1' (by simp)), hli, hlp, by omega, .inr rfl, hc⟩

theorem Det2.new {W W' : World} {g m i dl ns nb : Nat} {v : Value} {pf : Nat → Peer} (h : Det2 W g v pf m i dl ns nb) (hT : Turn [] W W') : Det2 W' g v pf m i dl ns nb := by
  obtain ⟨hi, tf, fi, fe, ht, T, r⟩ := h
  exact ⟨hi, tf, fi, fe, ht, T.new hT, r⟩

theorem frS {g c : Nat} {w w' : World} (h : Turn [g] w w') (hs : SM w g c) : Fr g TY w w' :=
  Fr.ofTurn h (by simp) (fun k hk c t fr hc => by
    simp at hk
    subst hk
    obtain ⟨clock, ⟨_, hm⟩ | ⟨_, born, hm⟩⟩ := hs
    all_goals
      rw [hm] at hc
      cases hc)

/-- sources.add(.., +1). -/
theorem Det2.source {W : World} {g m i dl nb : Nat} {v : Value} {pf : Nat → Peer} (h : Det2 W g v pf m i dl m nb) : Calls Ybad.prog 18 #[.map (some g), .agg #[.int .u64 0, .int .u64 0, .pointer none], .int .i32 1] W fun e w' => e = .returned (.tuple #[]) ∧ Fr g TY W w' ∧ Det2 w' g v pf m i dl (m + 1) nb := by
  obtain ⟨hi, tf, fi, fe, ht, T, hli, hle, h3, hs, hc⟩ := h
  have := T.small
  refine (sadd_any g m (m + 1) 1 W T.z0 T.ms ⟨.inl rfl, by omega⟩ (by omega)).mono ?_
  rintro e w' ⟨rfl, t, ms⟩
  exact ⟨rfl, frS t T.ms, hi, tf, fi, fe, ht, T.maps t (by simp) (T.mi.turn t (by simp)) (T.me.turn t (by simp)) (T.mb.turn t (by simp)) ms, hli, hle, h3, .inl rfl, hc⟩

/-- index.Set. -/
theorem Det2.set {W : World} {g m i dl ns nb : Nat} {v : Value} {pf : Nat → Peer} (h : Det2 W g v pf m i dl ns nb) :
    Calls Ybad.prog 22 #[.pointer (some ⟨g + 4, 1, none⟩), .int .i64 (i : Int), .agg #[.int .u64 0, .int .u64 0, .pointer none, .int .u8 0, .int .u32 0, .string ⟨#[]⟩, .string ⟨#[]⟩, .string ⟨#[]⟩, .int .u8 0]] W fun e w' => e = .returned (.tuple #[]) ∧ Fr g TY W w' ∧ Det2 w' g v pf m i dl ns nb := by
  obtain ⟨hi, tf, fi, fe, ht, T, r⟩ := h
  refine (set_any (g + 4) i (m + 1) tf W T.ix hi).mono ?_
  rintro e w' ⟨rfl, hF, tf', htf, hx⟩
  exact ⟨rfl, frY hF, hi, tf', fi, fe, (htf 0 (by omega) (by omega)).trans ht, T.index hF hx (fun k hk => htf k (by omega) (by omega)), r⟩

/-- countBridge(.., +1). -/
theorem Det2.bridge {W : World} {g m i dl nb : Nat} {v : Value} {pf : Nat → Peer} (h : Det2 W g v pf m i dl (m + 1) nb) :
    Calls Ybad.prog 20 #[.pointer (some ⟨g + 4, 0, none⟩), .int .i64 (i : Int), .int .i64 1] W fun e w' => e = .returned (.tuple #[]) ∧ Fr g TY W w' ∧ St w' g v pf (m + 1) dl := by
  obtain ⟨hi, tf, fi, fe, ht, T, hli, hle, h3, hs, hc⟩ := h
  obtain ⟨es, clock, hm, _⟩ := T.mb
  refine (bridge_any g i (m + 1) (m + 1) _ dl nb (cnt Peer.br pf (m + 1)) (m + 1) tf pf fi fe _ _ 1 W T hi hi ⟨.inl rfl, fun hb => ?_, fun hb => ?_⟩ (by omega)).mono ?_
  · rw [hc, if_pos hb]; omega
  · rw [hc, if_neg (by simp [hb])]; omega
  · rintro e w' ⟨rfl, t, T'⟩
    exact ⟨rfl, frM t (by omega) hm, tf, fi, fe, ht, T', hli, hle⟩

/-- The endpoint of a peer that is held, taken off: delete, sources.add(.., -1), countBridge(.., -1). -/
def Off (W : World) (g : Nat) (v : Value) (pf : Nat → Peer) (m i dl ns : Nat) : Prop :=
  i < m + 1 ∧ ∃ tf fi fe, tf 0 = v ∧ Tor W g tf pf (m + 1) (m + 1) (cnt Peer.done pf (m + 1)) dl (cnt Peer.br pf (m + 1)) ns fi fe (m + 1) m ∧ Look Peer.id pf (m + 1) fi ∧ LookX Peer.port pf (m + 1) i fe ∧ (ns = m + 1 ∨ ns = m)

theorem Off.new {W W' : World} {g m i dl ns : Nat} {v : Value} {pf : Nat → Peer} (h : Off W g v pf m i dl ns) (hT : Turn [] W W') : Off W' g v pf m i dl ns := by
  obtain ⟨hi, tf, fi, fe, ht, T, r⟩ := h
  exact ⟨hi, tf, fi, fe, ht, T.new hT, r⟩

theorem St.off {W : World} {g m i dl : Nat} {v : Value} {pf : Nat → Peer} (h : St W g v pf (m + 1) dl) (hi : i < m + 1) :
    ∃ W', (∀ ty, (Builtin.delete_ #[72, 48] ty #[.map (some (g + 2)), epV (pf i).port]).run Ybad.prog W.drew = .ok (.tuple #[]) W') ∧ Fr g TY W W' ∧ Off W' g v pf m i dl (m + 1) := by
  obtain ⟨tf, fi, fe, ht, T, hli, hle⟩ := h
  obtain ⟨es, clock, hm, _⟩ := T.me
  obtain ⟨W1, e1, t1, T1⟩ := tdel_ep T (T.ok i hi).2.1 (by rw [hle.1 i hi]; rfl)
  exact ⟨W1, e1, frM t1 (by omega) hm, hi, tf, fi, _, ht, T1, hli, hle.dropX hi, .inl rfl⟩

theorem Off.source {W : World} {g m i dl : Nat} {v : Value} {pf : Nat → Peer} (h : Off W g v pf m i dl (m + 1)) : Calls Ybad.prog 18 #[.map (some g), .agg #[.int .u64 0, .int .u64 0, .pointer none], .int .i32 (-1)] W fun e w' => e = .returned (.tuple #[]) ∧ Fr g TY W w' ∧ Off w' g v pf m i dl m := by
  obtain ⟨hi, tf, fi, fe, ht, T, hli, hle, hs⟩ := h
  have := T.small
  refine (sadd_any g (m + 1) m (-1) W T.z0 T.ms ⟨.inr rfl, by omega⟩ (by omega)).mono ?_
  rintro e w' ⟨rfl, t, ms⟩
  exact ⟨rfl, frS t T.ms, hi, tf, fi, fe, ht, T.maps t (by simp) (T.mi.turn t (by simp)) (T.me.turn t (by simp)) (T.mb.turn t (by simp)) ms, hli, hle, .inr rfl⟩

theorem cnt_br (pf : Nat → Peer) {i n : Nat} (hi : i < n) (hb : (pf i).br = true) : 1 ≤ cnt Peer.br pf n := by
  have := cnt_upd Peer.br pf hi { pf i with br := false }
  rw [if_pos hb] at this
  simp at this
  omega

theorem Off.bridge {W : World} {g m i dl : Nat} {v : Value} {pf : Nat → Peer} (h : Off W g v pf m i dl m) :
    Calls Ybad.prog 20 #[.pointer (some ⟨g + 4, 0, none⟩), .int .i64 (i : Int), .int .i64 (-1)] W fun e w' => e = .returned (.tuple #[]) ∧ Fr g TY W w' ∧ Det w' g v pf m i dl := by
  obtain ⟨hi, tf, fi, fe, ht, T, hli, hle, hs⟩ := h
  obtain ⟨es, clock, hm, _⟩ := T.mb
  have a2 := cnt_le Peer.br pf (m + 1)
  have := T.small
  have hb1 := fun hb => cnt_br pf hi hb
  refine (bridge_any g i (m + 1) (m + 1) _ dl (cnt Peer.br pf (m + 1)) (cnt Peer.br pf (m + 1) - if (pf i).br then 1 else 0) m tf pf fi fe _ _ (-1) W T hi hi ⟨.inr rfl, fun hb => ?_, fun hb => ?_⟩ (by omega)).mono ?_
  · have := hb1 hb
    rw [if_pos hb]; omega
  · rw [if_neg (by simp [hb])]; omega
  · rintro e w' ⟨rfl, t, T'⟩
    refine ⟨rfl, frM t (by omega) hm, hi, tf, fi, fe, _, ht, T', hli, hle, ?_⟩
    cases hb : (pf i).br with
    | true =>
      have := hb1 hb
      simp
      omega
    | false => simp

theorem ann_range {w : World} {ab id port : Nat} {dn ev : Bool} (h : w.rowIs ab 54 83 (acell id port dn ev)) : w.rangeAt ab 40 [.int .u64 0, .int .u64 0, .pointer none, .int .u16 (port : Int)] :=
  row_range h 40 _ (by simp) (fun k hk => by
    have hk : k < 4 := hk
    obtain rfl | rfl | rfl | rfl : k = 0 ∨ k = 1 ∨ k = 2 ∨ k = 3 := by omega
    all_goals rfl)

theorem ann_cells {w : World} {ab id port : Nat} {dn ev : Bool} (h : w.rowIs ab 54 83 (acell id port dn ev)) : w.cell? ⟨ab, 40, none⟩ = some (.int .u64 0) ∧ w.cell? ⟨ab, 41, none⟩ = some (.int .u64 0) ∧ w.cell? ⟨ab, 42, none⟩ = some (.pointer none) ∧ w.cell? ⟨ab, 43, none⟩ = some (.int .u16 (port : Int)) ∧ w.cell? ⟨ab, 77, none⟩ = some (.bool dn) ∧ w.cell? ⟨ab, 78, none⟩ = some (.bool ev) :=
  ⟨h.cell (by omega), h.cell (by omega), h.cell (by omega), h.cell (by omega), h.cell (by omega), h.cell (by omega)⟩

def z92 : List Value := [.int .u64 0, .int .u64 0, .pointer none, .int .u8 0, .int .u32 0, .string ⟨#[]⟩, .string ⟨#[]⟩, .string ⟨#[]⟩, .int .u8 0]

/-- A box of one placement. -/
theorem box92 {W V : World} (hV : V = W.alloc (.cells z92.toArray 92)) : Turn [] W V ∧ (loadVar 92 ⟨W.heap.size, 0, none⟩).run Ybad.prog V.drew = .ok (.agg z92.toArray) V.drew := by
  have r := row_new W z92.toArray 92
  have hT : Turn [] W V := by
    rw [hV]
    exact (Turn.refl [] W).alloc _
  rw [← hV] at r
  refine ⟨hT, run_loadVar_mid _ _ _ _ _ _ (row_range r.drew 0 _ (by simp [z92]) (fun k hk => ?_)) Ybad.underlying92 rfl size92⟩
  have hk : k < 9 := hk
  rw [Nat.zero_add]
  obtain rfl | rfl | rfl | rfl | rfl | rfl | rfl | rfl | rfl : k = 0 ∨ k = 1 ∨ k = 2 ∨ k = 3 ∨ k = 4 ∨ k = 5 ∨ k = 6 ∨ k = 7 ∨ k = 8 := by omega
  all_goals rfl

end Go.Proofs.YbulkbdskDoor
