/-
  (*torrent).countBridge; sourceCounts.peers; newTorrent.
-/
import Derived.Test.YbulkbdskDoorTswap
namespace Go.Proofs.YbulkbdskDoor
open Go Go.RowKit

theorem FM.congr {kv : Nat → Value} {N : Nat} {q : IntKind} {w : World} {b n n' : Nat} {f f' : Nat → Option Int} (h : FM kv N q w b f n) (hf : ∀ i, i < N → f i = f' i) (hn : n = n') : FM kv N q w b f' n' := by
  obtain ⟨es, clock, h1, h2, h3, h4, h5⟩ := h
  refine ⟨es, clock, h1, fun e he => ?_, fun i v hi hv => h3 i v hi ((hf i hi).trans hv), h4, h5.trans hn⟩
  obtain ⟨i, v, a1, a2, a3, a4⟩ := h2 e he
  exact ⟨i, v, a1, a2, (hf i a1).symm.trans a3, a4⟩

theorem frM {g k : Nat} {w w' : World} {es : Array MapEntry} {clock : Nat} (h : Turn [k] w w') (hk : g ≤ k) (hm : w.heap[k]? = some (.map es clock)) : Fr g TY w w' :=
  Fr.ofTurn h (by simpa using hk) (fun j hj c t fr hc => by simp at hj; subst hj; rw [hm] at hc; cases hc)

theorem field92 (W : World) : (Instr.field 92 (.agg #[.int .u64 0, .int .u64 0, .pointer none, .int .u8 0, .int .u32 0, .string ⟨#[]⟩, .string ⟨#[]⟩, .string ⟨#[]⟩, .int .u8 0]) 1).run Ybad.prog W = .ok (.int .u32 0) W := by kernel_rfl

set_option maxHeartbeats 1000000 in
set_option maxRecDepth 100000 in
theorem bridge_any (g i n nx c dl nb nb' ns : Nat) (tf : Nat → Value) (pf : Nat → Peer) (fi fe : Nat → Option Int) (ni ne : Nat) (d : Int) (w : World) (h : Tor w g tf pf n nx c dl nb ns fi fe ni ne) (hi : i < n) (hx : i < nx)
    (hd : (d = 1 ∨ d = -1) ∧ ((pf i).br = true → (nb' : Int) = nb + d) ∧ ((pf i).br = false → nb' = nb)) (hnb : nb < 1024) :
    Calls Ybad.prog 20 #[.pointer (some ⟨g + 4, 0, none⟩), .int .i64 (i : Int), .int .i64 d] w fun e w' => e = .returned (.tuple #[]) ∧ Turn [g + 3] w w' ∧ Tor w' g tf pf n nx c dl nb' ns fi fe ni ne := by
  obtain ⟨pb, cap, F, S⟩ := h.ps.slot (by omega)
  have c0 := h.row.cell (i := 0) (by omega)
  rw [S.val] at c0
  have hcap := S.room
  have hn3 := h.small
  have c60 := S.cell hi (k := 60) (by omega)
  have e60 : pcell (pf i) 60 = .bool (pf i).br := rfl
  rw [e60] at c60
  cases hbr : (pf i).br with
  | false =>
    rw [hbr] at c60
    obtain rfl : nb' = nb := hd.2.2 hbr
    have XH : Hid (Tor w g tf pf n nx c dl nb' ns fi fe ni ne) := h
    clear h S hd
    go_enter Ybad.func20, Ybad.ntmps20
    go_wp2
    exact bodyPost_ret (results_none rfl _ _ _) rfl ⟨rfl, Turn.refl _ _, XH.out⟩
  | true =>
    rw [hbr] at c60
    have hn' : (nb' : Int) = nb + d := hd.2.1 hbr
    obtain ⟨x, hx0⟩ : ∃ x : Int, x = nb := ⟨_, rfl⟩
    have hx1 : 0 ≤ x := by omega
    have hx2 : x < 1024 := by omega
    have hd1 : -1 ≤ d := by omega
    have hd2 : d ≤ 1 := by omega
    have X30 : Hid (Calls Ybad.prog 30 #[.pointer (some ⟨g + 4, 1, none⟩), .int .i64 (i : Int)] w fun e w' => e = .returned (.agg #[.int .u64 0, .int .u64 0, .pointer none, .int .u8 0, .int .u32 0, .string ⟨#[]⟩, .string ⟨#[]⟩, .string ⟨#[]⟩, .int .u8 0]) ∧ ∃ W2 W3, Hid (Turn [] w w' ∧ Turn [g + 3] w' W2 ∧ Turn [g + 3] w' W3 ∧ FM asV 1 .i64 W2 (g + 3) (fun j => if j = 0 then some (x + d) else none) 1 ∧ FM asV 1 .i64 W3 (g + 3) (fun _ => none) 0) ∧
        w'.cell? ⟨g + 4, 12, none⟩ = some (.map (some (g + 3))) ∧ W2.cell? ⟨g + 4, 12, none⟩ = some (.map (some (g + 3))) ∧ (Instr.lookup 73 (.map (some (g + 3))) (.int .u32 0) false).run Ybad.prog w' = .ok (.int .i64 x) w' ∧ (Instr.mapUpdate 73 (.map (some (g + 3))) (.int .u32 0) (.int .i64 (x + d))).run Ybad.prog w' = .ok () W2 ∧
        (Instr.lookup 73 (.map (some (g + 3))) (.int .u32 0) false).run Ybad.prog W2 = .ok (.int .i64 (x + d)) W2 ∧ ∀ ty, (Builtin.delete_ #[73, 80] ty #[.map (some (g + 3)), .int .u32 0]).run Ybad.prog W2 = .ok (.tuple #[]) W3) := by
      refine (placement_any (g + 4) i nx tf w h.row h.ix.places hx h.ix.small).mono ?_
      rintro e w' ⟨rfl, hT⟩
      have T1 := h.new hT
      obtain ⟨W2, e2, t2, m2⟩ := T1.mb.put as_ok Ybad.underlying73 (i := 0) (by omega) (x + d)
      have l1 := (T1.mb.look as_ok Ybad.underlying73 (zero3 _) (i := 0) (by omega)).1
      have l2 := (m2.look as_ok Ybad.underlying73 (zero3 _) (i := 0) (by omega)).1
      have m2' : FM asV 1 .i64 W2 (g + 3) (fun j => if j = 0 then some (x + d) else none) 1 := m2.congr (fun j hj => by
        obtain rfl : j = 0 := by omega
        rfl) (by by_cases e : nb = 0 <;> simp [e])
      have hdel : ∃ W3, (∀ ty, (Builtin.delete_ #[73, 80] ty #[.map (some (g + 3)), .int .u32 0]).run Ybad.prog W2 = .ok (.tuple #[]) W3) ∧ Turn [g + 3] W2 W3 ∧ FM asV 1 .i64 W3 (g + 3) (fun _ => none) 0 := by
        obtain ⟨W3, e3, t3, m3⟩ := m2'.del as_ok Ybad.underlying73 (i := 0) (by omega) 0
        refine ⟨W3, fun ty => ?_, t3, m3.congr (fun j hj => by
          obtain rfl : j = 0 := by omega
          rfl) rfl⟩
        exact e3
      obtain ⟨W3, e3, t3, m3⟩ := hdel
      refine ⟨rfl, W2, W3, ⟨hT, t2, t2.trans t3, m2', m3⟩, ?_, ?_, ?_, e2, l2, e3⟩
      · rw [T1.row.cell (by omega), h.t12]
      · rw [(t2.row T1.row (by simp)).cell (by omega), h.t12]
      · rw [hx0]
        refine Eq.trans l1 ?_
        by_cases e : nb = 0 <;> simp [e]
    have XH : Hid (Tor w g tf pf n nx c dl nb ns fi fe ni ne ∧ (nb' : Int) = x + d) := ⟨h, by omega⟩
    clear h S hd hn' hx0 hnb
    have hfd := field92
    by_cases hz : x + d = 0
    · rw [hz] at X30
      have h0 : nb' = 0 := by have := XH.out.2; omega
      go_enter Ybad.func20, Ybad.ntmps20
      go_wp2_with (go_at_call 30; refine X30.out.mono ?_; rintro e w1 ⟨rfl, W2, W3, H1, a1, a2, a3, a4, a5, a6⟩)
      go_end0
      obtain ⟨t1, t2, t3, m2, m3⟩ := H1.out
      have T1 := XH.out.1.new t1
      exact ⟨rfl, (t1.mono (by simp)).trans t3, T1.maps t3 (by simp) (T1.mi.turn t3 (by simp)) (T1.me.turn t3 (by simp)) (m3.congr (fun j hj => by simp [h0]) (by simp [h0])) (T1.ms.turn t3 (by simp))⟩
    · have h0 : nb' ≠ 0 := by have := XH.out.2; omega
      go_enter Ybad.func20, Ybad.ntmps20
      go_wp2_with (go_at_call 30; refine X30.out.mono ?_; rintro e w1 ⟨rfl, W2, W3, H1, a1, a2, a3, a4, a5, a6⟩)
      go_end0
      obtain ⟨t1, t2, t3, m2, m3⟩ := H1.out
      have T1 := XH.out.1.new t1
      exact ⟨rfl, (t1.mono (by simp)).trans t2, T1.maps t2 (by simp) (T1.mi.turn t2 (by simp)) (T1.me.turn t2 (by simp)) (m2.congr (fun j hj => by
        obtain rfl : j = 0 := by omega
        simp [h0, XH.out.2]) (by simp [h0])) (T1.ms.turn t2 (by simp))⟩

set_option maxHeartbeats 1000000 in
set_option maxRecDepth 100000 in
theorem speers_any (b c : Nat) (w : World) (h : Z0 w) (hs : SM w b c) (hc : c < 1024) : Calls Ybad.prog 9 #[.map (some b), adV] w fun e w' => e = .returned (.int .i64 (c : Int)) ∧ Turn [] w w' := by
  obtain ⟨x, hx0⟩ : ∃ x : Int, x = c := ⟨_, rfl⟩
  have hx1 : 0 ≤ x := by omega
  have hx2 : x < 1024 := by omega
  have X25 : Hid (∀ W, Turn [] w W → Calls Ybad.prog 25 #[.agg #[.int .u64 0, .int .u64 0, .pointer none]] W fun e w' => e = .returned (.agg #[.int .u8 0, .int .u8 0, .int .u8 0, .int .u8 0, .int .u8 0, .int .u8 0, .int .u8 0, .int .u8 0, .int .u8 0, .int .u8 0, .int .u8 0, .int .u8 0, .int .u8 0, .int .u8 0, .int .u8 0, .int .u8 0]) ∧ Hid (Turn [] w w') ∧ (Instr.lookup 26 (.map (some b)) (.agg #[.int .u8 0, .int .u8 0, .int .u8 0, .int .u8 0, .int .u8 0, .int .u8 0, .int .u8 0, .int .u8 0, .int .u8 0, .int .u8 0, .int .u8 0, .int .u8 0, .int .u8 0, .int .u8 0, .int .u8 0, .int .u8 0]) false).run Ybad.prog w' = .ok (.int .i32 x) w') := fun W hW =>
    (sourceOf_any W (h.turn hW (by simp))).mono fun e w' ⟨h1, h2⟩ => ⟨h1, hW.trans h2, by
      rw [hx0]
      obtain ⟨clock, ⟨rfl, hm⟩ | ⟨_, born, hm⟩⟩ := hs.turn (hW.trans h2) (by simp)
      · exact look_zero hm
      · exact look_one hm⟩
  have XC : Hid ((c : Int) = x) := hx0.symm
  clear h hs hc hx0
  unfold adV
  go_enter Ybad.func9, Ybad.ntmps9
  go_wp2_with (go_at_call 25; refine (X25.out _ ((Turn.refl [] w).alloc _)).mono ?_; rintro e w1 ⟨rfl, H1, a1⟩)
  go_ret
  exact ⟨by rw [XC.out]; rfl, H1.out⟩

/-- A torrent's cells when it is made. -/
def newT (g k : Nat) : Value :=
  if k < 5 then .slice none 0 0 else if k = 5 then .map none else if k = 6 then .slice none 0 0 else if k = 7 then .pointer none else if k = 8 then .map (some (g + 1)) else if k = 9 then .map (some (g + 2)) else if k < 12 then .int .i64 0 else if k = 12 then .map (some (g + 3)) else if k = 13 then .int .u64 0 else if k = 14 then .int .i64 0 else if k = 15 then .pointer none else .map (some g)

theorem make71 (W : World) : (Instr.makeMap 71 none).run Ybad.prog W = .ok (.map (some W.heap.size)) (W.alloc (.map #[] 0)) := by
  simp [Instr.makeMap, Result.andThen]
theorem make72 (W : World) : (Instr.makeMap 72 none).run Ybad.prog W = .ok (.map (some W.heap.size)) (W.alloc (.map #[] 0)) := by
  simp [Instr.makeMap, Result.andThen]
theorem make73 (W : World) : (Instr.makeMap 73 none).run Ybad.prog W = .ok (.map (some W.heap.size)) (W.alloc (.map #[] 0)) := by
  simp [Instr.makeMap, Result.andThen]
theorem make26 (W : World) : (Instr.makeMap 26 none).run Ybad.prog W = .ok (.map (some W.heap.size)) (W.alloc (.map #[] 0)) := by
  simp [Instr.makeMap, Result.andThen]

set_option maxHeartbeats 1000000 in
set_option maxRecDepth 100000 in
theorem newTorrent_any (w : World) (g : Nat) (pf : Nat → Peer) (hg : w.heap.size = g + 1) (hz : Z0 w) (hs : SM w g 0) (h1 : 1 < g) : Calls Ybad.prog 4 #[.map (some g)] w fun e w' => e = .returned (.pointer (some ⟨g + 4, 0, none⟩)) ∧ Turn [] w w' ∧ Tor w' g (newT g) pf 0 0 0 0 0 0 (fun _ => none) (fun _ => none) 0 0 ∧ w'.heap.size = g + 5 := by
  have XH : Hid (Z0 w ∧ SM w g 0 ∧ 1 < g) := ⟨hz, hs, h1⟩
  clear hz hs h1
  have m1 := make71
  have m2 := make72
  have m3 := make73
  go_enter Ybad.func4, Ybad.ntmps4
  go_wp2
  go_ret
  refine ⟨rfl, ?_⟩
  obtain ⟨hz, hs, h1⟩ := XH.out
  have f1 := FM.made w idV 4 .i64
  have f2 := FM.made (w.alloc (.map #[] 0)) epV 3 .i64
  have f3 := FM.made ((w.alloc (.map #[] 0)).alloc (.map #[] 0)) asV 1 .i64
  simp only [World.size_alloc, hg] at f1 f2 f3
  have hr := row_new (((w.alloc (.map #[] 0)).alloc (.map #[] 0)).alloc (.map #[] 0)) #[.slice none 0 0, .slice none 0 0, .slice none 0 0, .slice none 0 0, .slice none 0 0, .map none, .slice none 0 0, .pointer none, .map (some (g + 1)), .map (some (g + 1 + 1)), .int .i64 0, .int .i64 0, .map (some (g + 1 + 1 + 1)), .int .u64 0, .int .i64 0, .pointer none, .map (some g)] 75
  simp only [World.size_alloc, hg] at hr
  have ht : ∀ (V : World) o, Turn [] V (V.alloc o) := fun V o => (Turn.refl [] V).alloc o
  have hr' := hr.congr (g := newT g) (fun k hk => by
    have hk : k < 17 := hk
    obtain rfl | rfl | rfl | rfl | rfl | rfl | rfl | rfl | rfl | rfl | rfl | rfl | rfl | rfl | rfl | rfl | rfl : k = 0 ∨ k = 1 ∨ k = 2 ∨ k = 3 ∨ k = 4 ∨ k = 5 ∨ k = 6 ∨ k = 7 ∨ k = 8 ∨ k = 9 ∨ k = 10 ∨ k = 11 ∨ k = 12 ∨ k = 13 ∨ k = 14 ∨ k = 15 ∨ k = 16 := by omega
    all_goals rfl)
  have hT := (((ht w (.map #[] 0)).trans (ht _ (.map #[] 0))).trans (ht _ (.map #[] 0))).trans (ht _ (.cells #[.slice none 0 0, .slice none 0 0, .slice none 0 0, .slice none 0 0, .slice none 0 0, .map none, .slice none 0 0, .pointer none, .map (some (g + 1)), .map (some (g + 1 + 1)), .int .i64 0, .int .i64 0, .map (some (g + 1 + 1 + 1)), .int .u64 0, .int .i64 0, .pointer none, .map (some g)] 75))
  refine ⟨hT, ?_, by simp [hg]⟩
  exact {
    ix := ⟨fun _ => 0, fun _ => none, 0, {
      row := hr'
      small := by omega
      le := by omega
      idl := fun k hk => by omega
      posl := fun i p hp => by cases hp
      byKey := rfl
      places := .inl ⟨rfl, rfl⟩
      keys := ⟨fun _ => 0, .inl ⟨rfl, rfl⟩⟩
      complete := ⟨fun _ => false, .inl ⟨rfl, rfl⟩⟩
      ins := ⟨fun _ => undef, .inl ⟨rfl, rfl⟩, fun i p hp => by cases hp⟩
      grp := ⟨fun _ => ⟨.inl rfl, .inl ⟨rfl, rfl⟩⟩, fun h => by omega⟩ }, fun i hi => by omega⟩
    ps := .inl ⟨rfl, rfl⟩
    t8 := rfl
    t9 := rfl
    t12 := rfl
    t16 := rfl
    t10 := rfl
    t11 := rfl
    mi := ((f1.turn (ht _ _) (by simp)).turn (ht _ _) (by simp)).turn (ht _ _) (by simp)
    me := (f2.turn (ht _ _) (by simp)).turn (ht _ _) (by simp)
    mb := f3.turn (ht _ _) (by simp)
    ms := hs.turn hT (by simp)
    ok := fun j hj => by omega
    z0 := hz.turn hT (by simp)
    lo := h1
    small := by omega }
end Go.Proofs.YbulkbdskDoor
