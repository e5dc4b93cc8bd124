/-
  The counts of peers by source: sourceCounts.add, peers.
-/
import Derived.Test.YbulkbdskDoorSource
import Derived.Test.YbulkbdskDoorKeys
import Derived.BigRegion
namespace Go.Proofs.YbulkbdskDoor
open Go Go.RowKit Go.ChangeMaps

/-- Block b: the map of the one source's count. -/
def SM (w : World) (b c : Nat) : Prop := ∃ clock, (c = 0 ∧ w.heap[b]? = some (.map #[] clock)) ∨ (0 < c ∧ ∃ born, w.heap[b]? = some (.map #[⟨srcV 0, .int .i32 (c : Int), born⟩] clock))

theorem SM.turn {ks : List Nat} {w w' : World} {b c : Nat} (h : SM w b c) (ht : Turn ks w w') (hb : b ∉ ks) : SM w' b c := by
  obtain ⟨clock, ⟨h1, h2⟩ | ⟨h1, born, h2⟩⟩ := h
  · exact ⟨clock, .inl ⟨h1, ht.obj h2 hb⟩⟩
  · exact ⟨clock, .inr ⟨h1, born, ht.obj h2 hb⟩⟩
theorem SM.fr {lo : Nat} {T : List TypeId} {w w' : World} {b c : Nat} (h : SM w b c) (ht : Fr lo T w w') (hb : b < lo) : SM w' b c := by
  obtain ⟨clock, ⟨h1, h2⟩ | ⟨h1, born, h2⟩⟩ := h
  · exact ⟨clock, .inl ⟨h1, ht.block _ _ h2 (.inl hb)⟩⟩
  · exact ⟨clock, .inr ⟨h1, born, ht.block _ _ h2 (.inl hb)⟩⟩
theorem SM.made (w : World) : SM (w.alloc (.map #[] 0)) w.heap.size 0 := ⟨0, .inl ⟨rfl, World.alloc_heap_new w _⟩⟩
theorem SM.fm {w : World} {b c : Nat} (h : SM w b c) : FM srcV 1 .i32 w b (fun _ => if c = 0 then none else some (c : Int)) (if c = 0 then 0 else 1) := by
  obtain ⟨clock, ⟨rfl, h2⟩ | ⟨h1, born, h2⟩⟩ := h
  · exact ⟨_, _, h2, by simp, by simp, by simp, rfl⟩
  · have h0 : c ≠ 0 := by omega
    refine ⟨_, _, h2, fun e he => ?_, fun i v hi hv => ?_, by simp, by simp [h0]⟩
    · simp at he; subst he
      exact ⟨0, c, by omega, rfl, by simp [h0], rfl⟩
    · exact ⟨_, List.mem_singleton.2 rfl, rfl⟩

/-- The one source, as it stands in a slot. -/
def s16 : Value := .agg #[.int .u8 0, .int .u8 0, .int .u8 0, .int .u8 0, .int .u8 0, .int .u8 0, .int .u8 0, .int .u8 0, .int .u8 0, .int .u8 0, .int .u8 0, .int .u8 0, .int .u8 0, .int .u8 0, .int .u8 0, .int .u8 0]

theorem find_one (w : World) (v : Value) (born : Nat) : (Instr.findKey 104 s16 [⟨s16, v, born⟩]).run Ybad.prog w = .ok (some (0, v)) w := by
  rcases src_ok.find w 0 (by omega) [⟨s16, v, born⟩] (fun e he => ⟨0, by omega, by simp at he; subst he; rfl⟩) with ⟨_, h⟩ | ⟨j, e, h1, h2, _⟩
  · exact absurd rfl (h _ (List.mem_singleton.2 rfl))
  · cases j with
    | zero =>
      simp at h2
      subst h2
      exact h1
    | succ j => simp at h2
theorem find_zero (w : World) : (Instr.findKey 104 s16 []).run Ybad.prog w = .ok none w := by kernel_rfl
theorem look_zero {w : World} {b clock : Nat} (h : w.heap[b]? = some (.map #[] clock)) : (Instr.lookup 26 (.map (some b)) s16 false).run Ybad.prog w = .ok (.int .i32 0) w := by
  simp [Instr.lookup, run_underlying Ybad.underlying26, MapKept.run_getObj_map h, src_ok.check w _ 0 (by omega), show s16 = srcV 0 from rfl, show (Instr.findKey 104 (srcV 0) []).run Ybad.prog w = _ from find_zero w, Result.andThen]
theorem look_one {w : World} {b clock born : Nat} {v : Value} (h : w.heap[b]? = some (.map #[⟨s16, v, born⟩] clock)) : (Instr.lookup 26 (.map (some b)) s16 false).run Ybad.prog w = .ok v w := by
  simp [Instr.lookup, run_underlying Ybad.underlying26, MapKept.run_getObj_map h, show (Instr.checkKey false 10000 104 s16).run Ybad.prog w = _ from src_ok.check w _ 0 (by omega), find_one, Result.andThen]

theorem del_one {w : World} {b clock born : Nat} {v : Value} (h : w.heap[b]? = some (.map #[⟨s16, v, born⟩] clock)) (ty : TypeId) : (Builtin.delete_ #[26, 104] ty #[.map (some b), s16]).run Ybad.prog w = .ok (.tuple #[]) (setBlock w b (.map #[] clock)) := by
  simp [Builtin.delete_, run_underlying Ybad.underlying26, MapKept.run_getObj_map h, show ∀ em, (Instr.checkKey em 10000 104 s16).run Ybad.prog w = _ from fun em => src_ok.check w em 0 (by omega), find_one, MapKept.run_setObj_map _ h, Result.andThen]
  rfl

theorem sm_entry {w : World} {b c : Nat} (h : SM w b c) (y : Int) : ∃ v st W1 W2, (Instr.lookup 26 (.map (some b)) s16 false).run Ybad.prog w = .ok (.int .i32 (c : Int)) w ∧
    (Instr.mapEntry 26 (.map (some b)) s16).run Ybad.prog w = .ok (.tuple #[v, .int .i64 (st : Nat)]) W1 ∧ (Instr.lookup 26 (.map (some b)) s16 false).run Ybad.prog W1 = .ok (.int .i32 (c : Int)) W1 ∧
    (Instr.entryStore 26 (.map (some b)) (.int .i64 (st : Nat)) (.int .i32 y)).run Ybad.prog W1 = .ok () W2 ∧ Turn [b] w W2 ∧ ∃ clock born, W2.heap[b]? = some (.map #[⟨s16, .int .i32 y, born⟩] clock) := by
  have hT : ∀ (w : World) es clock (o : Obj), w.heap[b]? = some (.map es clock) → Turn [b] w (setBlock w b o) := fun w es clock o hb => ⟨rfl, rfl, rfl, by simp [setBlock], fun k _ hn => heap_setBlock_other hb _ (by simpa using hn)⟩
  obtain ⟨clock, ⟨rfl, h2⟩ | ⟨h1, born, h2⟩⟩ := h
  · have h3 := heap_setBlock_same h2 (.map #[⟨s16, .int .i32 0, clock⟩] (clock + 1))
    refine ⟨.int .i32 0, clock, setBlock w b (.map #[⟨s16, .int .i32 0, clock⟩] (clock + 1)), setBlock (setBlock w b (.map #[⟨s16, .int .i32 0, clock⟩] (clock + 1))) b (.map #[⟨s16, .int .i32 y, clock⟩] (clock + 1)), look_zero h2, ?_, look_one h3, ?_, (hT _ _ _ _ h2).trans (hT _ _ _ _ h3), clock + 1, clock, heap_setBlock_same h3 _⟩
    · simp [Instr.mapEntry, run_underlying Ybad.underlying26, MapKept.run_getObj_map h2, show (Instr.checkKey false 10000 104 s16).run Ybad.prog w = _ from src_ok.check w _ 0 (by omega), find_zero, MapKept.run_setObj_map _ h2, Result.andThen, setBlock, goInt]
    · simp [Instr.entryStore, MapKept.run_getObj_map h3, asInt, asIntOf, MapKept.run_setObj_map _ h3, Result.andThen]
      rfl
  · have h3 := heap_setBlock_same h2 (.map #[⟨s16, .int .i32 (c : Int), born⟩] clock)
    refine ⟨.int .i32 (c : Int), born, setBlock w b (.map #[⟨s16, .int .i32 (c : Int), born⟩] clock), setBlock (setBlock w b (.map #[⟨s16, .int .i32 (c : Int), born⟩] clock)) b (.map #[⟨s16, .int .i32 y, born⟩] clock), look_one h2, ?_, look_one h3, ?_, (hT _ _ _ _ h2).trans (hT _ _ _ _ h3), clock, born, heap_setBlock_same h3 _⟩
    · have h4 : w.heap[b]? = some (.map #[⟨s16, .int .i32 (c : Int), born⟩] clock) := h2
      simp [Instr.mapEntry, run_underlying Ybad.underlying26, MapKept.run_getObj_map h4, show (Instr.checkKey false 10000 104 s16).run Ybad.prog w = _ from src_ok.check w _ 0 (by omega), find_one, show (Instr.keyThatStays s16 s16).run Ybad.prog w = _ from src_ok.stays w 0 (by omega), MapKept.run_setObj_map _ h4, Result.andThen, setBlock, goInt]
      rfl
    · simp [Instr.entryStore, MapKept.run_getObj_map h3, asInt, asIntOf, MapKept.run_setObj_map _ h3, Result.andThen]
      rfl

set_option maxHeartbeats 1000000 in
set_option maxRecDepth 100000 in
theorem sadd_any (b c c' : Nat) (d : Int) (w : World) (h : Z0 w) (hs : SM w b c) (hd : (d = 1 ∨ d = -1) ∧ (c' : Int) = c + d) (hc : c < 1024) : Calls Ybad.prog 18 #[.map (some b), adV, .int .i32 d] w fun e w' => e = .returned (.tuple #[]) ∧ Turn [b] w w' ∧ SM w' b c' := by
  have X25 : Hid (∀ W, Z0 W → Calls Ybad.prog 25 #[.agg #[.int .u64 0, .int .u64 0, .pointer none]] W fun e w' => e = .returned (.agg #[.int .u8 0, .int .u8 0, .int .u8 0, .int .u8 0, .int .u8 0, .int .u8 0, .int .u8 0, .int .u8 0, .int .u8 0, .int .u8 0, .int .u8 0, .int .u8 0, .int .u8 0, .int .u8 0, .int .u8 0, .int .u8 0]) ∧ Turn [] W w') := sourceOf_any
  have XZ : Hid (Z0 w ∧ SM w b c ∧ ((d = 1 ∨ d = -1) ∧ (c' : Int) = c + d) ∧ c < 1024) := ⟨h, hs, hd, hc⟩
  clear h hs hd hc
  unfold adV
  go_enter Ybad.func18, Ybad.ntmps18
  go_upto_region 2 with (go_at_call 25; refine (X25.out _ (XZ.out.1.turn ((Turn.refl [] w).alloc _) (by simp))).mono ?_; rintro e w2 ⟨rfl, HT⟩)
  refine wp_world ?_
  intro V hV
  have hTV : Turn [] w V := by rw [hV]; exact (((Turn.refl [] w).alloc _).trans HT).alloc _
  have hr : V.rowIs w2.heap.size 104 16 (fun k => (z16[k]?).getD undef) := by rw [hV]; exact row_new w2 z16 104
  obtain ⟨sb, hsb⟩ : ∃ sb, w2.heap.size = sb := ⟨_, rfl⟩
  rw [hsb] at hr
  simp only [hsb]
  have a0 : V.cell? ⟨sb, 0, none⟩ = some (.int .u8 0) := hr.cell (by omega)
  have a1 : V.cell? ⟨sb, 1, none⟩ = some (.int .u8 0) := hr.cell (by omega)
  have a2 : V.cell? ⟨sb, 2, none⟩ = some (.int .u8 0) := hr.cell (by omega)
  have a3 : V.cell? ⟨sb, 3, none⟩ = some (.int .u8 0) := hr.cell (by omega)
  have a4 : V.cell? ⟨sb, 4, none⟩ = some (.int .u8 0) := hr.cell (by omega)
  have a5 : V.cell? ⟨sb, 5, none⟩ = some (.int .u8 0) := hr.cell (by omega)
  have a6 : V.cell? ⟨sb, 6, none⟩ = some (.int .u8 0) := hr.cell (by omega)
  have a7 : V.cell? ⟨sb, 7, none⟩ = some (.int .u8 0) := hr.cell (by omega)
  have a8 : V.cell? ⟨sb, 8, none⟩ = some (.int .u8 0) := hr.cell (by omega)
  have a9 : V.cell? ⟨sb, 9, none⟩ = some (.int .u8 0) := hr.cell (by omega)
  have a10 : V.cell? ⟨sb, 10, none⟩ = some (.int .u8 0) := hr.cell (by omega)
  have a11 : V.cell? ⟨sb, 11, none⟩ = some (.int .u8 0) := hr.cell (by omega)
  have a12 : V.cell? ⟨sb, 12, none⟩ = some (.int .u8 0) := hr.cell (by omega)
  have a13 : V.cell? ⟨sb, 13, none⟩ = some (.int .u8 0) := hr.cell (by omega)
  have a14 : V.cell? ⟨sb, 14, none⟩ = some (.int .u8 0) := hr.cell (by omega)
  have a15 : V.cell? ⟨sb, 15, none⟩ = some (.int .u8 0) := hr.cell (by omega)
  obtain ⟨v, st, W1, W2, e1, e2, e3, e4, e5, e6⟩ := sm_entry (XZ.out.2.1.turn hTV.drew (by simp)) ((c : Int) + d)
  obtain ⟨x, hx⟩ : ∃ x : Int, (c : Int) = x := ⟨_, rfl⟩
  rw [hx] at e1 e3 e4 e6
  unfold s16 at e1 e2 e3
  have hx1 : 0 ≤ x := by omega
  have hx2 : x < 1024 := by have := XZ.out.2.2.2; omega
  have hd1 : -1 ≤ d := by have := XZ.out.2.2.1.1; omega
  have hd2 : d ≤ 1 := by have := XZ.out.2.2.1.1; omega
  have e1' := e1
  have hsbb : sb ≠ b := by
    obtain ⟨clock, ⟨_, h2⟩ | ⟨_, born, h2⟩⟩ := XZ.out.2.1.turn hTV (by simp)
    all_goals
      obtain ⟨_, h1, _⟩ := hr
      exact ne_of_obj h1 h2 (by simp)
  have hr2 := e5.row (hr.drew) (by simpa using hsbb)
  obtain ⟨clock, born, e6⟩ := e6
  have XE : Hid (W2.heap[b]? = some (.map #[⟨s16, .int .i32 (x + d), born⟩] clock) ∧ Turn [b] w W2) := ⟨e6, (hTV.drew.mono (by simp)).trans e5⟩
  have f1 := look_one e6
  have f2 := fun ty => del_one e6 ty
  obtain ⟨W3, hW3⟩ : ∃ W3, W3 = setBlock W2 b (.map #[] clock) := ⟨_, rfl⟩
  rw [← hW3] at f2
  unfold s16 at f1 f2
  have X3 : Hid (W3 = setBlock W2 b (.map #[] clock)) := hW3
  have b0 : W2.cell? ⟨sb, 0, none⟩ = some (.int .u8 0) := hr2.cell (by omega)
  have b1 : W2.cell? ⟨sb, 1, none⟩ = some (.int .u8 0) := hr2.cell (by omega)
  have b2 : W2.cell? ⟨sb, 2, none⟩ = some (.int .u8 0) := hr2.cell (by omega)
  have b3 : W2.cell? ⟨sb, 3, none⟩ = some (.int .u8 0) := hr2.cell (by omega)
  have b4 : W2.cell? ⟨sb, 4, none⟩ = some (.int .u8 0) := hr2.cell (by omega)
  have b5 : W2.cell? ⟨sb, 5, none⟩ = some (.int .u8 0) := hr2.cell (by omega)
  have b6 : W2.cell? ⟨sb, 6, none⟩ = some (.int .u8 0) := hr2.cell (by omega)
  have b7 : W2.cell? ⟨sb, 7, none⟩ = some (.int .u8 0) := hr2.cell (by omega)
  have b8 : W2.cell? ⟨sb, 8, none⟩ = some (.int .u8 0) := hr2.cell (by omega)
  have b9 : W2.cell? ⟨sb, 9, none⟩ = some (.int .u8 0) := hr2.cell (by omega)
  have b10 : W2.cell? ⟨sb, 10, none⟩ = some (.int .u8 0) := hr2.cell (by omega)
  have b11 : W2.cell? ⟨sb, 11, none⟩ = some (.int .u8 0) := hr2.cell (by omega)
  have b12 : W2.cell? ⟨sb, 12, none⟩ = some (.int .u8 0) := hr2.cell (by omega)
  have b13 : W2.cell? ⟨sb, 13, none⟩ = some (.int .u8 0) := hr2.cell (by omega)
  have b14 : W2.cell? ⟨sb, 14, none⟩ = some (.int .u8 0) := hr2.cell (by omega)
  have b15 : W2.cell? ⟨sb, 15, none⟩ = some (.int .u8 0) := hr2.cell (by omega)
  clear hV hsb hTV hr hr2 e5 e6 hsbb hW3 HT
  by_cases hz : x + d = 0
  · have hc0 : c' = 0 := by have := XZ.out.2.2.1.2; omega
    rw [hz] at e4 f1
    go_region
    clear e1 e2 e3 e4 a0 a1 a2 a3 a4 a5 a6 a7 a8 a9 a10 a11 a12 a13 a14 a15
    go_wp2
    go_end0
    rw [X3.out]
    exact ⟨rfl, XE.out.2.trans ⟨rfl, rfl, rfl, by simp [setBlock], fun k _ hn => heap_setBlock_other XE.out.1 _ (by simpa using hn)⟩, clock, .inl ⟨hc0, heap_setBlock_same XE.out.1 _⟩⟩
  · have hc0 : 0 < c' := by have := XZ.out.2.2.1.2; omega
    go_region
    clear e1 e2 e3 e4 a0 a1 a2 a3 a4 a5 a6 a7 a8 a9 a10 a11 a12 a13 a14 a15
    go_wp2
    go_end0
    refine ⟨rfl, XE.out.2, clock, .inr ⟨hc0, born, ?_⟩⟩
    have hxc : x + d = (c' : Int) := by have := XZ.out.2.2.1.2; omega
    rw [← hxc]
    exact XE.out.1
end Go.Proofs.YbulkbdskDoor
