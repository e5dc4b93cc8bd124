/-
  A peer appended: the slice, the index, the map of ids.
-/
import Derived.Test.YbulkbdskDoorEarly
import Derived.Test.YbulkbdskDoorAdd
import Derived.Test.YbulkbdskDoorSet
namespace Go.Proofs.YbulkbdskDoor
open Go Go.RowKit

def z77 : Array Value := #[.int .u8 0, .int .u8 0, .int .u8 0, .int .u8 0, .int .u8 0, .int .u8 0, .int .u8 0, .int .u8 0, .int .u8 0, .int .u8 0, .int .u8 0, .int .u8 0, .int .u8 0, .int .u8 0, .int .u8 0, .int .u8 0, .int .u8 0, .int .u8 0, .int .u8 0, .int .u8 0] ++ k32 ++ #[.int .u64 0, .int .u64 0, .pointer none, .int .u16 0, .bool false, .int .u64 0, .int .i64 0, .pointer none, .bool false]

theorem info77 : (Ybad.prog.info? 77).map (fun i => (i.zero, i.size, i.bytes)) = some (some (.agg z77), 61, 128) := by kernel_rfl

theorem pcs_news (w : World) (p : Peer) : ∀ j u, (pcs p)[j]? = some u → (w.alloc (.cells (pcs p).toArray 77)).cell? ((⟨w.heap.size, 0, none⟩ : Addr).add j) = some u :=
  news_new w (pcs p).toArray 77

section
variable {P : Program} {ops : Array Oper} {w w' : World}
theorem exec_append {o : Oper} {a : Act} {s x : Operand} {t : TypeId} {sv xv v : Value} (ho : o.op = .call { callee := .builtin .append, args := #[s, x], argTypes := #[t, t] }) (hs : a.eval s = sv) (hx : a.eval x = xv) (hr : ∀ ty, (Builtin.append_ #[t, t] ty #[sv, xv]).run P w = .ok v w') : (execOp a.eval o).run P w = .ok (.value v) w' := by
  unfold execOp
  simp only [ho, resolve, invoke, builtin, Sem.run_bind, Sem.run_pure, Result.andThen_ok, List.map_toArray, List.map_cons, List.map_nil, hs, hx, hr]
theorem exec_buildL {o : Oper} {a : Act} {t : TypeId} {parts : List (Nat × Operand)} {ps : List (Nat × Value)} {v : Value} (hop : o.op = .build t parts.toArray) (hp : (parts.map fun q => (q.1, a.eval q.2)) = ps) (hl : (Instr.build t ps.toArray).run P w = .ok v w') : (execOp a.eval o).run P w = .ok (.value v) w' := by
  simp only [execOp, hop]
  subst hp
  simp [hl, Result.andThen]
theorem exec_buildSliceL {o : Oper} {a : Act} {t : TypeId} {n : Nat} {parts : List (Nat × Operand)} {ps : List (Nat × Value)} {v : Value} (hop : o.op = .buildSlice t n parts.toArray) (hp : (parts.map fun q => (q.1, a.eval q.2)) = ps) (hl : (Instr.buildSlice t n ps.toArray).run P w = .ok v w') : (execOp a.eval o).run P w = .ok (.value v) w' := by
  simp only [execOp, hop]
  subst hp
  simp [hl, Result.andThen]
end

theorem tappend {W : World} {g : Nat} {tf : Nat → Value} {pf : Nat → Peer} {n nx c dl nb ns : Nat} {fi fe : Nat → Option Int} {ni ne : Nat} (h : Tor W g tf pf n nx c dl nb ns fi fe ni ne) (hn : n < 3) (p : Peer) (hp : p.id < 4 ∧ p.port < 3 ∧ p.s < 1024) :
    ∃ v' w8, (∀ ty, (Builtin.append_ #[61, 61] ty #[tf 0, .slice (some ⟨W.heap.size, 0, none⟩) 1 1]).run Ybad.prog (W.alloc (.cells (pcs p).toArray 77)) = .ok v' w8) ∧ w8.rowIs (g + 4) 75 17 tf ∧ Fr g TY W (w8.setCell ⟨g + 4, 0, none⟩ v') ∧
      Tor (w8.setCell ⟨g + 4, 0, none⟩ v') g (fun j => if j = 0 then v' else tf j) (upd pf n p) (n + 1) nx c dl nb ns fi fe ni ne := by
  obtain ⟨i, hi1, hi2, hi3, hi4⟩ := info_parts info77
  have hT1 : Turn [] W (W.alloc (.cells (pcs p).toArray 77)) := (Turn.refl [] W).alloc _
  have hs1 := h.ps.turn hT1 (by simp)
  have key := fun ty => run_append_own_at (P := Ybad.prog) (W.alloc (.cells (pcs p).toArray 77)) (g + 4 + 1) 61 ty 77 i (.agg z77) 61 128 Ybad.underlying61 hi1 hi2 hi3 hi4 rfl (by decide) (tf 0) n _ hs1.owns ⟨W.heap.size, 0, none⟩ 1 1 (pcs p) (by rw [pcs_length]) (pcs_news W p) (fun u hu => by
    obtain ⟨k, _, rfl⟩ := List.mem_map.1 hu
    exact pcell_one p k) (by unfold maxLen; omega) (by omega) (by have := h.row.lt; simp; omega)
  obtain ⟨v', w8, e8, hown, hgrow, _, _⟩ := key 0
  have hT8 : Turn (tf 0).ownBlock.toList (W.alloc (.cells (pcs p).toArray 77)) w8 := (Turn.refl _ _).grown (row := (tf 0).ownBlock) hgrow (fun k e => .inl (by simp [e]))
  have hty : ∀ k ∈ (tf 0).ownBlock.toList, g + 4 < k ∧ ∃ c, W.heap[k]? = some (.cells c 77 (0, 0)) := fun k hk => h.ps.block (by simpa using hk)
  have hW8 : Turn ((g + 4) :: (tf 0).ownBlock.toList) W w8 := (hT1.mono (by simp)).trans (hT8.mono (fun i hi => List.mem_cons_of_mem _ hi))
  have t8 : w8.rowIs (g + 4) 75 17 tf := hT8.row (h.row.alloc _) (fun hm => by have := (hty _ hm).1; omega)
  have hT : Turn ((g + 4) :: (tf 0).ownBlock.toList) W (w8.setCell ⟨g + 4, 0, none⟩ v') := hW8.setCell (.inl (by simp)) v'
  have hlow : ∀ k, k < g + 4 → k ∉ (g + 4) :: (tf 0).ownBlock.toList := fun k hk hm => by
    rcases List.mem_cons.1 hm with e | hm
    · omega
    · have := (hty _ hm).1; omega
  refine ⟨v', w8, fun ty => ?_, t8, Fr.ofTurn hT (fun k hk => ?_) (fun k hk c t fr hc => ?_), ?_⟩
  · exact e8
  · rcases List.mem_cons.1 hk with e | hm
    · omega
    · have := (hty _ hm).1; omega
  · rcases List.mem_cons.1 hk with e | hm
    · subst e
      obtain ⟨c0, h0, _⟩ := h.row
      rw [h0] at hc
      cases hc
      decide
    · obtain ⟨_, c2, h2⟩ := hty _ hm
      rw [h2] at hc
      cases hc
      decide
  · have hS : Sl w8 (g + 4) 77 61 v' (n + 1) (prow (upd pf n p)) := Sl.appended hown (fun k hk => by
      unfold prow upd
      rw [if_neg (by omega)]) (fun k hk => by
      rw [prow_at _ _ hk, pcs_at _ hk]
      unfold upd
      rw [if_pos rfl])
    have hT9 : Turn [g + 4] w8 (w8.setCell ⟨g + 4, 0, none⟩ v') := (Turn.refl _ w8).setCell (.inl (by simp)) v'
    exact {
      ix := h.ix.of (fun b o hb ho hx => hT.obj ho (fun hm => by
        rcases List.mem_cons.1 hm with e | hm
        · omega
        · obtain ⟨_, c2, h2⟩ := hty _ hm
          rw [h2] at ho
          cases ho
          cases hx)) (t8.set 0 v') (fun j h1 h2 => if_neg (by omega))
      ps := by
        show Sl _ _ _ _ (if 0 = 0 then v' else tf 0) _ _
        rw [if_pos rfl]
        exact hS.turn hT9 (fun b hb hm => by have := (hS.block hb).1; simp at hm; omega)
      t8 := h.t8
      t9 := h.t9
      t12 := h.t12
      t16 := h.t16
      t10 := h.t10
      t11 := h.t11
      mi := h.mi.turn hT (hlow _ (by omega))
      me := h.me.turn hT (hlow _ (by omega))
      mb := h.mb.turn hT (hlow _ (by omega))
      ms := h.ms.turn hT (hlow _ (by omega))
      ok := fun j hj => by
        unfold upd
        by_cases e : j = n
        · rw [if_pos e]; exact hp
        · rw [if_neg e]; exact h.ok j (by omega)
      z0 := h.z0.turn hT (hlow _ (by have := h.lo; omega))
      lo := h.lo
      small := by omega }

/-- The peer is in the slice and in the index; its id is laid in the map. -/
theorem det_push {W : World} {g : Nat} {tf : Nat → Value} {pf : Nat → Peer} {n dl id : Nat} {br : Bool} {fi fe : Nat → Option Int} (h : Tor W g tf (upd pf n (fresh id br)) (n + 1) (n + 1) (cnt Peer.done pf n) dl (cnt Peer.br pf n) n fi fe n n) (hi : id < 4)
    (hli : Look Peer.id pf n fi) (hle : Look Peer.port pf n fe) (hne : ∀ j, j < n → (pf j).id ≠ id) :
    ∃ W', (Instr.mapUpdate 71 (.map (some (g + 1))) (idV id) (.int .i64 (n : Int))).run Ybad.prog W.drew = .ok () W' ∧ Fr g TY W W' ∧ ∃ v', Det W' g v' (upd pf n (fresh id br)) n n dl := by
  obtain ⟨W1, e1, t1, m1⟩ := (h.mi.turn ((Turn.refl [] W).drew) (by simp)).put ids_ok Ybad.underlying71 hi (n : Int)
  have hf : fi id = none := hli.none hne
  rw [hf] at m1
  have t1' : Turn [g + 1] W W1 := ((Turn.refl [g + 1] W).drew).trans t1
  obtain ⟨es, clock, hm, _⟩ := h.mi
  refine ⟨W1, e1, frM t1' (by omega) hm, tf 0, by omega, tf, _, fe, cnt Peer.br pf n, rfl, ?_, hli.push (fresh id br) hne, hle.pushX _, ?_⟩
  · have T := h.maps (fi' := put1 fi id n) (ni' := n + 1) t1' (by simp) m1 (h.me.turn t1' (by simp)) (h.mb.turn t1' (by simp)) (h.ms.turn t1' (by simp))
    rw [cnt_push]
    exact T
  · rw [cnt_push]
    unfold upd
    rw [if_pos rfl]

end Go.Proofs.YbulkbdskDoor
