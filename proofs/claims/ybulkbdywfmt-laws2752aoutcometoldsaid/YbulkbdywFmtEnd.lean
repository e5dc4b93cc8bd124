import Derived.Test.YbulkbdywFmtMake
import Derived.Deep.OwnRows
namespace Go.Proofs.YbulkbdywFmt
open Go.RowKit Go.Extern.Stop Go.Stop Go.Extern

/-- What (*members).end reads: the members at M, the fields at R, the package's sentinel at b0 with its text. -/
structure EEnv (M R n seen : Nat) (notObj : Bool) (errAt : Int) (ev : Value) (tw un : ByteArray) (hasUnk : Bool) (key : Nat → ByteArray) (req : Nat → Bool) (b0 : Addr) (s0 : ByteArray) (w : World) : Prop where
  c0 : w.cell? ⟨M, 0, none⟩ = some (.int .u64 seen)
  c1 : w.cell? ⟨M, 1, none⟩ = some (.bool notObj)
  c2 : w.cell? ⟨M, 2, none⟩ = some (.int .i64 errAt)
  c3 : w.cell? ⟨M, 3, none⟩ = some ev
  c4 : w.cell? ⟨M, 4, none⟩ = some (.string tw)
  c5 : w.cell? ⟨M, 5, none⟩ = some (.string un)
  c6 : w.cell? ⟨M, 6, none⟩ = some (.bool hasUnk)
  f : ∀ i, i < n → w.cell? ⟨R, i * 3, none⟩ = some (.string (key i)) ∧ w.cell? ⟨R, i * 3 + 1, none⟩ = some (.bool (req i)) ∧ w.cell? ⟨R, i * 3 + 2, none⟩ = some .nilFunc
  g : w.cell? ⟨0, 0, none⟩ = some (.iface 41 (.pointer (some b0)))
  t0 : w.cell? b0 = some (.string s0)
  lt : M < w.heap.size ∧ R < w.heap.size ∧ b0.block < w.heap.size
theorem EEnv.later {M R n seen : Nat} {notObj : Bool} {errAt : Int} {ev : Value} {tw un : ByteArray} {hasUnk : Bool} {key : Nat → ByteArray} {req : Nat → Bool} {b0 : Addr} {s0 : ByteArray} {w w' : World}
    (h : EEnv M R n seen notObj errAt ev tw un hasUnk key req b0 s0 w) (hb : Below w.heap.size w w') : EEnv M R n seen notObj errAt ev tw un hasUnk key req b0 s0 w' := by
  obtain ⟨l1, l2, l3⟩ := h.lt
  have hs := hb.size
  exact { c0 := (hb.cell (p := ⟨M, 0, none⟩) l1).trans h.c0, c1 := (hb.cell (p := ⟨M, 1, none⟩) l1).trans h.c1, c2 := (hb.cell (p := ⟨M, 2, none⟩) l1).trans h.c2, c3 := (hb.cell (p := ⟨M, 3, none⟩) l1).trans h.c3
          c4 := (hb.cell (p := ⟨M, 4, none⟩) l1).trans h.c4, c5 := (hb.cell (p := ⟨M, 5, none⟩) l1).trans h.c5, c6 := (hb.cell (p := ⟨M, 6, none⟩) l1).trans h.c6
          f := fun i hi => ⟨(hb.cell (p := ⟨R, i * 3, none⟩) l2).trans (h.f i hi).1, (hb.cell (p := ⟨R, i * 3 + 1, none⟩) l2).trans (h.f i hi).2.1, (hb.cell (p := ⟨R, i * 3 + 2, none⟩) l2).trans (h.f i hi).2.2⟩
          g := (hb.cell (p := ⟨0, 0, none⟩) (by show 0 < w.heap.size; omega)).trans h.g
          t0 := (hb.cell l3).trans h.t0
          lt := ⟨by omega, by omega, by omega⟩ }

theorem top_row (W : World) (o : Obj) : ((W.alloc o).drew).heap[W.heap.size]? = some o := heap_alloc_new W o
theorem new_cell (W : World) (cs : Array Value) (t : TypeId) (i : Nat) (v : Value) (h : cs[i]? = some v) : (W.alloc (.cells cs t)).cell? ⟨W.heap.size, i, none⟩ = some v := by
  have hh := heap_alloc_new W (.cells cs t)
  unfold World.cell?
  dsimp only
  rw [hh]
  exact h
theorem top_cell (W : World) (v1 v2 : Value) (t : TypeId) : ((W.alloc (.cells #[v1, v2] t)).drew).cell? ⟨W.heap.size, 1, none⟩ = some v2 := new_cell W _ t 1 v2 rfl
theorem below2 (w : World) (o1 o2 : Obj) : Below w.heap.size w ((w.alloc o1).alloc o2).drew := (((Below.refl _ w).alloc (Nat.le_refl _) _).alloc (by simp) _).drew

set_option maxHeartbeats 1000000 in
theorem end_notObj (F : Interp) (M R n cap seen : Nat) (errAt : Int) (ev : Value) (tw un : ByteArray) (hasUnk : Bool) (key : Nat → ByteArray) (req : Nat → Bool) (b0 bs : Addr) (s0 : ByteArray) (w : World) (hF : F.answers w.tape)
    (hE : EEnv M R n seen true errAt ev tw un hasUnk key req b0 s0 w) :
    Calls Ybaf.prog 5 #[.pointer (some ⟨M, 0, none⟩), .slice (some ⟨R, 0, none⟩) n cap] w fun e w' => ∃ v, e = .returned v ∧ Ends 1 b0 bs v w' ∧ Below w.heap.size w w' := by
  have hg := hE.g
  have hc1 := hE.c1
  have XN : Hid (Calls Ybaf.prog 8 #[.iface 41 (.pointer (some b0))] w fun e w' => ∃ txt, e = .returned (.iface 51 (.pointer (some ⟨w.heap.size + 1, 0, none⟩))) ∧ w' = ((w.alloc (.cells #[.iface 41 (.pointer (some b0))] 20)).alloc (.cells #[.string txt, .iface 41 (.pointer (some b0))] 88)).drew) :=
    notOne_any F b0 s0 w hF ((((Below.refl _ w).alloc (Nat.le_refl _) _).cell hE.lt.2.2).trans hE.t0)
  clear hE hF
  go_enter Ybaf.func5, Ybaf.ntmps5
  go_wp2_with (go_at_call 8; refine XN.out.mono ?_; rintro e w' ⟨txt, rfl, rfl⟩)
  go_ret
  refine ⟨_, rfl, .inr (.inl ⟨rfl, w.heap.size + 1, rfl, ?_⟩), below2 _ _ _⟩
  have h := top_cell (w.alloc (.cells #[.iface 41 (.pointer (some b0))] 20)) (.string txt) (.iface 41 (.pointer (some b0))) 88
  rw [World.size_alloc] at h
  exact h

set_option maxHeartbeats 1000000 in
theorem end_twice (F : Interp) (M R n cap seen : Nat) (errAt : Int) (ev : Value) (tw un : ByteArray) (hasUnk : Bool) (key : Nat → ByteArray) (req : Nat → Bool) (b0 bs : Addr) (s0 : ByteArray) (w : World) (hF : F.answers w.tape)
    (hE : EEnv M R n seen false errAt ev tw un hasUnk key req b0 s0 w) (hbs : bs.block < w.heap.size) (hte : tw.toList.isEmpty = false) :
    Calls Ybaf.prog 5 #[.pointer (some ⟨M, 0, none⟩), .slice (some ⟨R, 0, none⟩) n cap] w fun e w' => ∃ v, e = .returned v ∧ Ends 2 b0 bs v w' ∧ Below w.heap.size w w' := by
  have hc1 := hE.c1
  have hc4 := hE.c4
  have hl := hE.lt
  have XK : Hid (Calls Ybaf.prog 9 #[.string ⟨#[107, 101, 121, 32, 37, 46, 52, 48, 113, 32, 103, 105, 118, 101, 110, 32, 116, 119, 105, 99, 101]⟩, .slice (some ⟨w.heap.size, 0, none⟩) 1 1] (w.alloc (.cells #[.iface 9 (.string tw)] 20)) fun e w' => ∃ txt, e = .returned (.iface 41 (.pointer (some ⟨w.heap.size + 1, 0, none⟩))) ∧ w' = ((w.alloc (.cells #[.iface 9 (.string tw)] 20)).alloc (.cells #[.string txt] 43)).drew) := by
    have h := errorfK F w.heap.size tw (w.alloc (.cells #[.iface 9 (.string tw)] 20)) hF (new_cell w _ 20 0 _ rfl)
    rw [World.size_alloc] at h
    exact h
  have XN : Hid (∀ txt, Calls Ybaf.prog 8 #[.iface 41 (.pointer (some ⟨w.heap.size + 1, 0, none⟩))] ((w.alloc (.cells #[.iface 9 (.string tw)] 20)).alloc (.cells #[.string txt] 43)).drew fun e w' => ∃ v, e = .returned v ∧ Ends 2 b0 bs v w' ∧ Below w.heap.size w w') := fun txt => by
    obtain ⟨W, hW⟩ : ∃ W, W = ((w.alloc (.cells #[.iface 9 (.string tw)] 20)).alloc (.cells #[.string txt] 43)).drew := ⟨_, rfl⟩
    have hWs : W.heap.size = w.heap.size + 2 := by rw [hW]; simp [World.drew]
    have hWr : W.heap[w.heap.size + 1]? = some (.cells #[.string txt] 43) := by
      have h := top_row (w.alloc (.cells #[.iface 9 (.string tw)] 20)) (.cells #[.string txt] 43)
      rw [World.size_alloc] at h
      rw [hW]
      exact h
    have hWb : Below w.heap.size w W := by rw [hW]; exact below2 _ _ _
    have hWc : W.cell? ⟨w.heap.size + 1, 0, none⟩ = some (.string txt) := by simp [World.cell?, hWr]
    have hb3 : ∀ o : Obj, Below W.heap.size W (W.alloc o) := fun o => (Below.refl _ W).alloc (Nat.le_refl _) _
    rw [← hW]
    refine (notOne_any F ⟨w.heap.size + 1, 0, none⟩ txt W (by rw [hWb.tape]; exact hF) (((hb3 _).cell (by show w.heap.size + 1 < W.heap.size; omega)).trans hWc)).mono ?_
    rintro e w' ⟨t2, rfl, rfl⟩
    refine ⟨_, rfl, .inr (.inr (.inr ⟨rfl, ⟨w.heap.size + 1, 0, none⟩, #[.string txt], 43, ?_, ?_, ?_, .inr ⟨W.heap.size + 1, rfl, ?_⟩⟩)), hWb.trans ((below2 W _ _).mono hWb.size)⟩
    · intro e; have := congrArg Addr.block e; dsimp only at this; omega
    · intro e; have := congrArg Addr.block e; dsimp only at this; omega
    · exact ((below2 W _ _).block (w.heap.size + 1) (by omega)).trans hWr
    · have h := top_cell (W.alloc (.cells #[.iface 41 (.pointer (some ⟨w.heap.size + 1, 0, none⟩))] 20)) (.string t2) (.iface 41 (.pointer (some ⟨w.heap.size + 1, 0, none⟩))) 88
      rw [World.size_alloc] at h
      exact h
  clear hE hF hl
  go_enter Ybaf.func5, Ybaf.ntmps5
  go_wp2_with (first | (go_at_call 9; refine XK.out.mono ?_; rintro e w' ⟨txt, rfl, rfl⟩) | (go_at_call 8; refine (XN.out _).mono ?_; rintro e w' ⟨v, rfl, hv, hbl⟩))
  go_ret
  exact ⟨_, rfl, hv, hbl⟩
end Go.Proofs.YbulkbdywFmt
