import Derived.Test.YbulkbdywFmtEnd
import Derived.Laws.EntriesVeiled
namespace Go.Proofs.YbulkbdywFmt
open Go.RowKit Go.Extern.Stop Go.Stop Go.Extern

/-- A new error of errors.New's make, behind the variadic slice's block. -/
theorem ends_new {b0 bs : Addr} {w W2 : World} {o : Obj} {txt : ByteArray} (hb : Below w.heap.size w W2) (h0 : b0.block < w.heap.size) (hs : bs.block < w.heap.size) :
    Ends 2 b0 bs (.iface 41 (.pointer (some ⟨(W2.alloc o).heap.size, 0, none⟩))) ((W2.alloc o).alloc (.cells #[.string txt] 43)).drew ∧ Below w.heap.size w ((W2.alloc o).alloc (.cells #[.string txt] 43)).drew := by
  have hsz := hb.size
  refine ⟨.inr (.inr (.inr ⟨rfl, ⟨(W2.alloc o).heap.size, 0, none⟩, #[.string txt], 43, ?_, ?_, top_row _ _, .inl rfl⟩)), hb.trans ((below2 W2 _ _).mono hsz)⟩
  · intro e; have := congrArg Addr.block e; simp only [World.size_alloc] at this; omega
  · intro e; have := congrArg Addr.block e; simp only [World.size_alloc] at this; omega

/-- fmt.Errorf of the missing key, in whatever world behind. -/
theorem miss_at (F : Interp) (s : ByteArray) (b0 bs : Addr) (w W2 : World) (hF : F.answers w.tape) (hb : Below w.heap.size w W2) (h0 : b0.block < w.heap.size) (hs : bs.block < w.heap.size) :
    Calls Ybaf.prog 9 #[.string ⟨#[109, 105, 115, 115, 105, 110, 103, 32, 107, 101, 121, 32, 37, 113]⟩, .slice (some ⟨W2.heap.size, 0, none⟩) 1 1] (W2.alloc (.cells #[.iface 9 (.string s)] 20)) fun e w' => ∃ v, e = .returned v ∧ Ends 2 b0 bs v w' ∧ Below w.heap.size w w' := by
  refine (errorfM F W2.heap.size s _ (by show F.answers W2.tape; rw [hb.tape]; exact hF) (new_cell W2 _ 20 0 _ rfl)).mono ?_
  rintro e w' ⟨txt, rfl, rfl⟩
  exact ⟨_, rfl, ends_new hb h0 hs⟩
theorem unk_at (F : Interp) (s : ByteArray) (b0 bs : Addr) (w W2 : World) (hF : F.answers w.tape) (hb : Below w.heap.size w W2) (h0 : b0.block < w.heap.size) (hs : bs.block < w.heap.size) :
    Calls Ybaf.prog 9 #[.string ⟨#[117, 110, 107, 110, 111, 119, 110, 32, 107, 101, 121, 32, 37, 46, 52, 48, 113]⟩, .slice (some ⟨W2.heap.size, 0, none⟩) 1 1] (W2.alloc (.cells #[.iface 9 (.string s)] 20)) fun e w' => ∃ v, e = .returned v ∧ Ends 2 b0 bs v w' ∧ Below w.heap.size w w' := by
  refine (errorfU F W2.heap.size s _ (by show F.answers W2.tape; rw [hb.tape]; exact hF) (new_cell W2 _ 20 0 _ rfl)).mono ?_
  rintro e w' ⟨txt, rfl, rfl⟩
  exact ⟨_, rfl, ends_new hb h0 hs⟩
theorem wrap_at (F : Interp) (s ss : ByteArray) (b0 bs : Addr) (w W2 : World) (hF : F.answers w.tape) (hb : Below w.heap.size w W2) (hs : bs.block < w.heap.size) (ht : w.cell? bs = some (.string ss)) :
    Calls Ybaf.prog 9 #[.string ⟨#[37, 115, 58, 32, 37, 119]⟩, .slice (some ⟨W2.heap.size, 0, none⟩) 2 2] (W2.alloc (.cells #[.iface 9 (.string s), .iface 41 (.pointer (some bs))] 20)) fun e w' => ∃ v, e = .returned v ∧ Ends 3 b0 bs v w' ∧ Below w.heap.size w w' := by
  have hb2 : Below w.heap.size w (W2.alloc (.cells #[.iface 9 (.string s), .iface 41 (.pointer (some bs))] 20)) := hb.alloc hb.size _
  refine (errorfW F W2.heap.size s ss bs _ (by show F.answers W2.tape; rw [hb.tape]; exact hF) (new_cell W2 _ 20 0 _ rfl) (new_cell W2 _ 20 1 _ rfl) ((hb2.cell hs).trans ht)).mono ?_
  rintro e w' ⟨txt, rfl, rfl⟩
  exact ⟨_, rfl, .inr (.inr (.inl ⟨rfl, _, rfl, top_cell _ _ _ _⟩)), hb2.trans (((Below.refl _ _).alloc (Nat.le_refl _) _).drew.mono hb2.size)⟩

set_option maxHeartbeats 2000000 in
theorem end_loop (F : Interp) (M R n cap seen : Nat) (errAt : Int) (hasErr : Bool) (tw un : ByteArray) (hasUnk : Bool) (key : Nat → ByteArray) (req : Nat → Bool) (b0 bs : Addr) (s0 ss : ByteArray) (w : World) (hF : F.answers w.tape)
    (hE : EEnv M R n seen false errAt (if hasErr then .iface 41 (.pointer (some bs)) else .nilIface) tw un hasUnk key req b0 s0 w) (hbs : bs.block < w.heap.size) (hts : w.cell? bs = some (.string ss)) (hn : n ≤ 1024) (hs : seen < 18446744073709551616)
    (hkey : ∀ i, i < n → (key i).size ≤ 281474976710656) (hte : tw.toList.isEmpty = true) :
    Calls Ybaf.prog 5 #[.pointer (some ⟨M, 0, none⟩), .slice (some ⟨R, 0, none⟩) n cap] w fun e w' => ∃ v, e = .returned v ∧ Ends (look req seen errAt hasErr hasUnk n 0) b0 bs v w' ∧ Below w.heap.size w w' := by
  have hc1 := hE.c1
  have hc4 := hE.c4
  have XE : Hid (EEnv M R n seen false errAt (if hasErr then .iface 41 (.pointer (some bs)) else .nilIface) tw un hasUnk key req b0 s0 w) := hE
  have XK : Hid (∀ i, i < n → (key i).size ≤ 281474976710656) := hkey
  have XF : Hid (F.answers w.tape) := hF
  have XS : Hid (bs.block < w.heap.size ∧ w.cell? bs = some (.string ss)) := ⟨hbs, hts⟩
  clear hE hkey hF hbs hts
  go_enter Ybaf.func5, Ybaf.ntmps5
  go_wp2_with fail
  clear hc1 hc4
  go_loopw [30] (fun iv wr => ∃ i : Nat, i ≤ n ∧ iv = .int .i64 i ∧ Below w.heap.size w wr ∧ look req seen errAt hasErr hasUnk n 0 = look req seen errAt hasErr hasUnk (n - i) i) (fun iv _ => n - (intOf iv).toNat)
  case atStart => exact ⟨0, Nat.zero_le _, rfl, Below.refl _ _, rfl⟩
  case round =>
    obtain ⟨i, hi, rfl, hB, hL⟩ := hrel
    have HB : Hid (Below w.heap.size w wr) := hB
    have HL : Hid (look req seen errAt hasErr hasUnk n 0 = look req seen errAt hasErr hasUnk (n - i) i) := hL
    have hEr := XE.out.later hB
    have hlt3 := hEr.lt
    clear hB hL
    by_cases hlt : i < n
    · have hin : (i : Int) < n := by omega
      obtain ⟨f1, f2, f3⟩ := hEr.f i hlt
      have m0 := hEr.c0
      have m2 := hEr.c2
      have m3 := hEr.c3
      obtain ⟨lM, lR, lb⟩ := hlt3
      clear hEr
      have hsz := HB.out.size
      obtain ⟨ky, hky⟩ : ∃ ky, ky = key i := ⟨_, rfl⟩
      have HK : Hid (ky.size ≤ 281474976710656) := by rw [hky]; exact XK.out i hlt
      rw [← hky] at f1
      clear hky
      by_cases hEE : hasErr = true ∧ (i : Int) = errAt
      · obtain ⟨rfl, rfl⟩ := hEE
        have HR : Hid (look req seen (i : Int) true hasUnk (n - i) i = 3) := look_err hlt rfl rfl
        simp only [if_true] at m3
        go_wp2
        obtain ⟨W1, hW1⟩ : ∃ W1, W1 = wr.alloc (Obj.cells #[Value.string ky, Value.bool (req i), Value.nilFunc] 29) := ⟨_, rfl⟩
        have n0 : W1.cell? ⟨wr.heap.size, 0, none⟩ = some (.string ky) := by rw [hW1]; exact new_cell wr _ 29 0 _ rfl
        have hb1 : Below wr.heap.size wr W1 := by rw [hW1]; exact (Below.refl _ _).alloc (Nat.le_refl _) _
        have n3 : W1.cell? ⟨M, 3, none⟩ = some (.iface 41 (.pointer (some bs))) := (hb1.cell (p := ⟨M, 3, none⟩) lM).trans m3
        have hbw : Below w.heap.size w W1 := HB.out.trans (hb1.mono hsz)
        have XW : Hid (∀ W2, Below W1.heap.size W1 W2 → Calls Ybaf.prog 9 #[.string ⟨#[37, 115, 58, 32, 37, 119]⟩, .slice (some ⟨W2.heap.size, 0, none⟩) 2 2] (W2.alloc (.cells #[.iface 9 (.string ky), .iface 41 (.pointer (some bs))] 20)) fun e w' => ∃ v, e = .returned v ∧ Ends 3 b0 bs v w' ∧ Below w.heap.size w w') :=
          fun W2 h => wrap_at F ky ss b0 bs w W2 XF.out (hbw.trans (h.mono hbw.size)) XS.out.1 XS.out.2
        have lM1 : M < W1.heap.size := by have := hb1.size; omega
        rw [← hW1]
        clear hW1 hb1 hbw f1 f2 f3 m0 m2 m3
        go_region_with (first | (go_at_call 10; refine (clone_any ky _ HK.out).mono ?_; rintro e w2 ⟨rfl, hB2⟩; have HB2 : Hid (Below W1.heap.size W1 w2) := ⟨hB2.os, hB2.tape, hB2.output, hB2.size, hB2.block⟩; have m4 : w2.cell? ⟨M, 3, none⟩ = some (.iface 41 (.pointer (some bs))) := (HB2.out.cell (p := ⟨M, 3, none⟩) lM1).trans n3; clear hB2) | (go_at_call 9; refine (XW.out _ HB2.out).mono ?_; rintro e w3 ⟨v, rfl, hv, hbl⟩))
        all_goals
          go_wp2
          go_ret
          exact ⟨v, rfl, by rw [HL.out, HR.out]; exact hv, hbl⟩
      · have hb1 : Below wr.heap.size wr (wr.alloc (Obj.cells #[Value.string ky, Value.bool (req i), Value.nilFunc] 29)) := (Below.refl _ _).alloc (Nat.le_refl _) _
        have hbw : Below w.heap.size w (wr.alloc (Obj.cells #[Value.string ky, Value.bool (req i), Value.nilFunc] 29)) := HB.out.trans (hb1.mono hsz)
        have hbe : hasErr = true → ((i : Int) == errAt) = false := fun h => beq_eq_false_iff_ne.2 (fun e => hEE ⟨h, e⟩)
        cases hR : req i
        · rw [hR] at f2 hb1 hbw
          have HR : Hid (look req seen errAt hasErr hasUnk (n - i) i = look req seen errAt hasErr hasUnk (n - (i + 1)) (i + 1)) := look_next hlt hEE (by rw [hR]; simp)
          have HBW : Hid (Below w.heap.size w (wr.alloc (Obj.cells #[Value.string ky, Value.bool false, Value.nilFunc] 29))) := hbw
          clear hEE hb1 hbw
          cases hasErr
          · clear hbe
            simp only [Bool.false_eq_true, if_false] at m3
            go_wp2
            go_roundw
            case rel => exact ⟨i + 1, by omega, by go_num, HBW.out, by rw [HL.out, HR.out]⟩
            case measure => simp [intOf]; omega
          · have hbe2 := hbe rfl
            clear hbe
            simp only [if_true] at m3
            go_wp2
            go_roundw
            case rel => exact ⟨i + 1, by omega, by go_num, HBW.out, by rw [HL.out, HR.out]⟩
            case measure => simp [intOf]; omega
        · rw [hR] at f2 hb1 hbw
          have XHs : Hid (Calls Ybaf.prog 11 #[.pointer (some ⟨M, 0, none⟩), .int .i64 i] (wr.alloc (Obj.cells #[Value.string ky, Value.bool true, Value.nilFunc] 29)) fun e w' => e = .returned (.bool (heldB seen i)) ∧ ∃ q, w' = (wr.alloc (Obj.cells #[Value.string ky, Value.bool true, Value.nilFunc] 29)).drewN q) :=
            has_any M seen i _ hs ((hb1.cell (p := ⟨M, 0, none⟩) lM).trans m0)
          have HBW : Hid (Below w.heap.size w (wr.alloc (Obj.cells #[Value.string ky, Value.bool true, Value.nilFunc] 29))) := hbw
          cases hH : heldB seen i
          · have HR : Hid (look req seen errAt hasErr hasUnk (n - i) i = 2) := look_miss hlt hEE hR hH
            have n0 : (wr.alloc (Obj.cells #[Value.string ky, Value.bool true, Value.nilFunc] 29)).cell? ⟨wr.heap.size, 0, none⟩ = some (.string ky) := new_cell wr _ 29 0 _ rfl
            have XM : Hid (∀ q W2, Below ((wr.alloc (Obj.cells #[Value.string ky, Value.bool true, Value.nilFunc] 29)).drewN q).heap.size ((wr.alloc (Obj.cells #[Value.string ky, Value.bool true, Value.nilFunc] 29)).drewN q) W2 → Calls Ybaf.prog 9 #[.string ⟨#[109, 105, 115, 115, 105, 110, 103, 32, 107, 101, 121, 32, 37, 113]⟩, .slice (some ⟨W2.heap.size, 0, none⟩) 1 1] (W2.alloc (.cells #[.iface 9 (.string ky)] 20)) fun e w' => ∃ v, e = .returned v ∧ Ends 2 b0 bs v w' ∧ Below w.heap.size w w') :=
              fun q W2 h => miss_at F ky b0 bs w W2 XF.out (HBW.out.trans ((show Below (wr.alloc (Obj.cells #[Value.string ky, Value.bool true, Value.nilFunc] 29)).heap.size (wr.alloc (Obj.cells #[Value.string ky, Value.bool true, Value.nilFunc] 29)) W2 from ⟨h.os, h.tape, h.output, h.size, h.block⟩).mono HBW.out.size)) XE.out.lt.2.2 XS.out.1
            rw [hH] at XHs
            clear hEE hb1 hbw hH
            cases hasErr
            · clear hbe
              simp only [Bool.false_eq_true, if_false] at m3
              go_wp2_with (first | (go_at_call 11; refine XHs.out.mono ?_; rintro e w' ⟨rfl, q, rfl⟩) | (go_at_call 10; refine (clone_any ky _ HK.out).mono ?_; rintro e w2 ⟨rfl, hB2⟩; have HB2 : Hid (Below ((wr.alloc (Obj.cells #[Value.string ky, Value.bool true, Value.nilFunc] 29)).drewN q).heap.size ((wr.alloc (Obj.cells #[Value.string ky, Value.bool true, Value.nilFunc] 29)).drewN q) w2) := hB2; clear hB2) | (go_at_call 9; refine (XM.out q _ HB2.out).mono ?_; rintro e w3 ⟨v, rfl, hv, hbl⟩))
              go_ret
              exact ⟨v, rfl, by rw [HL.out, HR.out]; exact hv, hbl⟩
            · have hbe2 := hbe rfl
              clear hbe
              simp only [if_true] at m3
              go_wp2_with (first | (go_at_call 11; refine XHs.out.mono ?_; rintro e w' ⟨rfl, q, rfl⟩) | (go_at_call 10; refine (clone_any ky _ HK.out).mono ?_; rintro e w2 ⟨rfl, hB2⟩; have HB2 : Hid (Below ((wr.alloc (Obj.cells #[Value.string ky, Value.bool true, Value.nilFunc] 29)).drewN q).heap.size ((wr.alloc (Obj.cells #[Value.string ky, Value.bool true, Value.nilFunc] 29)).drewN q) w2) := hB2; clear hB2) | (go_at_call 9; refine (XM.out q _ HB2.out).mono ?_; rintro e w3 ⟨v, rfl, hv, hbl⟩))
              go_ret
              exact ⟨v, rfl, by rw [HL.out, HR.out]; exact hv, hbl⟩
          · have HR : Hid (look req seen errAt hasErr hasUnk (n - i) i = look req seen errAt hasErr hasUnk (n - (i + 1)) (i + 1)) := look_next hlt hEE (by rw [hH]; simp)
            rw [hH] at XHs
            clear hEE hb1 hbw hH
            cases hasErr
            · clear hbe
              simp only [Bool.false_eq_true, if_false] at m3
              go_wp2_with (go_at_call 11; refine XHs.out.mono ?_; rintro e w' ⟨rfl, q, rfl⟩)
              go_roundw
              case rel => exact ⟨i + 1, by omega, by go_num, HBW.out.trans ⟨rfl, rfl, rfl, Nat.le_refl _, fun _ _ => rfl⟩, by rw [HL.out, HR.out]⟩
              case measure => simp [intOf]; omega
            · have hbe2 := hbe rfl
              clear hbe
              simp only [if_true] at m3
              go_wp2_with (go_at_call 11; refine XHs.out.mono ?_; rintro e w' ⟨rfl, q, rfl⟩)
              go_roundw
              case rel => exact ⟨i + 1, by omega, by go_num, HBW.out.trans ⟨rfl, rfl, rfl, Nat.le_refl _, fun _ _ => rfl⟩, by rw [HL.out, HR.out]⟩
              case measure => simp [intOf]; omega
    · obtain rfl : i = n := by omega
      have HR : Hid (look req seen errAt hasErr hasUnk (i - i) i = if hasUnk then 2 else 0) := look_done
      have m5 := hEr.c5
      have m6 := hEr.c6
      have XU : Hid (Calls Ybaf.prog 9 #[.string ⟨#[117, 110, 107, 110, 111, 119, 110, 32, 107, 101, 121, 32, 37, 46, 52, 48, 113]⟩, .slice (some ⟨wr.heap.size, 0, none⟩) 1 1] (wr.alloc (.cells #[.iface 9 (.string un)] 20)) fun e w' => ∃ v, e = .returned v ∧ Ends 2 b0 bs v w' ∧ Below w.heap.size w w') :=
        unk_at F un b0 bs w wr XF.out HB.out XE.out.lt.2.2 XS.out.1
      clear hEr hlt3
      cases hasUnk
      · go_wp2
        go_ret
        exact ⟨_, rfl, by rw [HL.out, HR.out]; exact .inl ⟨rfl, rfl⟩, HB.out⟩
      · go_wp2_with (go_at_call 9; refine XU.out.mono ?_; rintro e w3 ⟨v, rfl, hv, hbl⟩)
        go_ret
        exact ⟨v, rfl, by rw [HL.out, HR.out]; exact hv, hbl⟩
end Go.Proofs.YbulkbdywFmt
