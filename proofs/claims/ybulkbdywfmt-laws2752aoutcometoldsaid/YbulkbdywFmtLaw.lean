import Derived.Test.YbulkbdywFmtLoop
import Derived.Laws.MakeOwn
namespace Go.Proofs.YbulkbdywFmt
open Go.RowKit Go.Extern.Stop Go.Stop Go.Extern

/-- (*members).end, all its ways. -/
theorem end_any (F : Interp) (M R n cap seen : Nat) (notObj : Bool) (errAt : Int) (hasErr : Bool) (tw un : ByteArray) (hasUnk : Bool) (key : Nat → ByteArray) (req : Nat → Bool) (b0 bs : Addr) (s0 ss : ByteArray) (w : World) (hF : F.answers w.tape)
    (hE : EEnv M R n seen notObj errAt (if hasErr then .iface 41 (.pointer (some bs)) else .nilIface) tw un hasUnk key req b0 s0 w) (hbs : bs.block < w.heap.size) (hts : w.cell? bs = some (.string ss)) (hn : n ≤ 1024) (hs : seen < 18446744073709551616)
    (hkey : ∀ i, i < n → (key i).size ≤ 281474976710656) :
    Calls Ybaf.prog 5 #[.pointer (some ⟨M, 0, none⟩), .slice (some ⟨R, 0, none⟩) n cap] w fun e w' => ∃ v, e = .returned v ∧ Ends (outN req seen errAt hasErr hasUnk n notObj tw.toList.isEmpty) b0 bs v w' ∧ Below w.heap.size w w' := by
  cases notObj
  · cases hte : tw.toList.isEmpty
    · exact end_twice F M R n cap seen errAt _ tw un hasUnk key req b0 bs s0 w hF hE hbs hte
    · exact end_loop F M R n cap seen errAt hasErr tw un hasUnk key req b0 bs s0 ss w hF hE hbs hts hn hs hkey hte
  · exact end_notObj F M R n cap seen errAt _ tw un hasUnk key req b0 bs s0 w hF hE

def fldF (key : Nat → ByteArray) (req : Nat → Bool) (k : Nat) : Nat → Value := fun x =>
  if x % 3 = 0 then .string (if x / 3 < k then key (x / 3) else ⟨#[]⟩) else if x % 3 = 1 then .bool (if x / 3 < k then req (x / 3) else false) else .nilFunc
theorem fld_set {key : Nat → ByteArray} {req : Nat → Bool} {k R n t : Nat} {wr : World} (h : wr.rowIs R t n (fldF key req k)) :
    (((wr.setCell ⟨R, k * 3, none⟩ (.string (key k))).setCell ⟨R, k * 3 + 1, none⟩ (.bool (req k))).setCell ⟨R, k * 3 + 2, none⟩ .nilFunc).rowIs R t n (fldF key req (k + 1)) :=
  (((h.set _ _).set _ _).set _ _).congr (fun x _ => by
    simp only [fldF]
    by_cases e2 : x = k * 3 + 2
    · rw [if_pos e2, if_neg (by omega), if_neg (by omega)]
    · rw [if_neg e2]
      by_cases e1 : x = k * 3 + 1
      · rw [if_pos e1, if_neg (by omega), if_pos (by omega), if_pos (by omega), show x / 3 = k by omega]
      · rw [if_neg e1]
        by_cases e0 : x = k * 3
        · rw [if_pos e0, if_pos (by omega), if_pos (by omega), show x / 3 = k by omega]
        · rw [if_neg e0]
          by_cases hl : x / 3 < k
          · rw [if_pos hl, if_pos hl, if_pos (show x / 3 < k + 1 by omega), if_pos (show x / 3 < k + 1 by omega)]
          · rw [if_neg hl, if_neg hl, if_neg (show ¬ x / 3 < k + 1 by omega), if_neg (show ¬ x / 3 < k + 1 by omega)])

theorem Ybaf.info29 : (Ybaf.prog.info? 29).map (fun i => (i.zero, i.size, i.bytes)) = some (some (.agg #[.string ⟨#[]⟩, .bool false, .nilFunc]), 3, 32) := by kernel_rfl
def mkF (n : Nat) : Array Value := madeCells #[.string ⟨#[]⟩, .bool false, .nilFunc] (n * 3)
theorem make24 (n : Nat) (hn : n ≤ 1024) (W : World) : (Instr.makeSlice 24 (.int .i64 n) (.int .i64 n)).run Ybaf.prog W = .ok (.slice (some ⟨W.heap.size, 0, none⟩) n n) (W.alloc (.cells (mkF n) 29)) := by
  obtain ⟨i0, hi, hz0, hz1, hz2⟩ := info_parts Ybaf.info29
  have h := run_make (P := Ybaf.prog) W 24 29 i0 _ Ybaf.underlying24 hi hz0 .i64 .i64 n n (by omega) (Int.le_refl _) (by rw [hz2]; omega) (by omega)
  rw [hz1] at h
  simpa [mkF, Value.cells] using h
theorem mkF_row (W : World) (n : Nat) (key : Nat → ByteArray) (req : Nat → Bool) : (W.alloc (.cells (mkF n) 29)).rowIs W.heap.size 29 (n * 3) (fldF key req 0) := by
  have e : (mkF n).size = n * 3 := size_madeCells _ _
  have h := World.rowIs_alloc W (mkF n) 29 (fldF key req 0) (fun i hi => by
    rw [e] at hi
    have h3 : i % 3 = 0 ∨ i % 3 = 1 ∨ i % 3 = 2 := by omega
    rcases h3 with h | h | h
    · simp [mkF, madeCells, fldF, hi, h]
    · simp [mkF, madeCells, fldF, hi, h]
    · simp [mkF, madeCells, fldF, hi, h])
  rwa [e] at h

/-- The law's road from its table of fields on: the sentinel at S, the members at S + 1. -/
theorem tail_env {R n seen : Nat} {notObj : Bool} {errAt : Int} {ev : Value} {tw un : ByteArray} {hasUnk : Bool} {key : Nat → ByteArray} {req : Nat → Bool} {b0 : Addr} {s0 : ByteArray} {wr W : World} {M : Nat}
    (hr : wr.rowIs R 29 (n * 3) (fldF key req n)) (hg : wr.cell? ⟨0, 0, none⟩ = some (.iface 41 (.pointer (some b0)))) (ht : wr.cell? b0 = some (.string s0)) (h0 : 0 < wr.heap.size) (hb0 : b0.block < wr.heap.size) (hR : R < wr.heap.size)
    (hb : Below wr.heap.size wr W) (hM : M < W.heap.size) (hm : W.heap[M]? = some (.cells #[.int .u64 seen, .bool notObj, .int .i64 errAt, ev, .string tw, .string un, .bool hasUnk, .nilFunc] 36 (0, 0))) :
    EEnv M R n seen notObj errAt ev tw un hasUnk key req b0 s0 W := by
  have c : ∀ i v, (#[.int .u64 seen, .bool notObj, .int .i64 errAt, ev, .string tw, .string un, .bool hasUnk, .nilFunc] : Array Value)[i]? = some v → W.cell? ⟨M, i, none⟩ = some v := fun i v h => by
    unfold World.cell?
    dsimp only
    rw [hm]
    exact h
  have hs := hb.size
  exact { c0 := c 0 _ rfl, c1 := c 1 _ rfl, c2 := c 2 _ rfl, c3 := c 3 _ rfl, c4 := c 4 _ rfl, c5 := c 5 _ rfl, c6 := c 6 _ rfl
          f := fun i hi => by
            have e0 := (hb.cell (p := ⟨R, i * 3, none⟩) hR).trans (hr.cell (i := i * 3) (by omega))
            have e1 := (hb.cell (p := ⟨R, i * 3 + 1, none⟩) hR).trans (hr.cell (i := i * 3 + 1) (by omega))
            have e2 := (hb.cell (p := ⟨R, i * 3 + 2, none⟩) hR).trans (hr.cell (i := i * 3 + 2) (by omega))
            simp only [fldF] at e0 e1 e2
            rw [if_pos (by omega), if_pos (by omega), show i * 3 / 3 = i by omega] at e0
            rw [if_neg (by omega), if_pos (by omega), if_pos (by omega), show (i * 3 + 1) / 3 = i by omega] at e1
            rw [if_neg (by omega), if_neg (by omega)] at e2
            exact ⟨e0, e1, e2⟩
          g := (hb.cell (p := ⟨0, 0, none⟩) h0).trans hg
          t0 := (hb.cell hb0).trans ht
          lt := ⟨hM, by omega, by omega⟩ }

theorem new_any (s : ByteArray) (w : World) : Calls Ybaf.prog 4 #[.string s] w fun e w' => e = .returned (.iface 41 (.pointer (some ⟨w.heap.size, 0, none⟩))) ∧ w' = w.alloc (.cells #[.string s] 43) := by
  go_enter Ybaf.func4, Ybaf.ntmps4
  go_wp2
  go_ret
  exact ⟨rfl, rfl⟩

set_option maxHeartbeats 2000000 in
theorem law_any (F : Interp) (o : Option Addr) (n cap seen : Nat) (notObj : Bool) (errAt : Int) (hasErr : Bool) (tw un : ByteArray) (hasUnk : Bool) (key : Nat → ByteArray) (req : Nat → Bool) (b0 : Addr) (s0 : ByteArray) (cb : Array Value) (tb : TypeId) (w : World) (hF : F.answers w.tape)
    (hn : n ≤ 1024) (hs : seen < 18446744073709551616) (hkey : ∀ i, i < n → (key i).size ≤ 281474976710656)
    (hc : ∀ i, i < n → ∃ b off, o = some ⟨b, off, none⟩ ∧ b < w.heap.size ∧ w.cell? ⟨b, off + i * 2, none⟩ = some (.string (key i)) ∧ w.cell? ⟨b, off + i * 2 + 1, none⟩ = some (.bool (req i)))
    (hg : w.cell? ⟨0, 0, none⟩ = some (.iface 41 (.pointer (some b0)))) (ht : w.cell? b0 = some (.string s0)) (hrow : w.heap[b0.block]? = some (.cells cb tb (0, 0))) (h0 : 0 < w.heap.size) :
    Calls Ybaf.prog 3 #[.slice o n cap, .int .u64 seen, .bool notObj, .int .i64 errAt, .bool hasErr, .string tw, .string un, .bool hasUnk] w fun e w' => e = .returned (.bool true) ∧ Below w.heap.size w w' := by
  have hb0 : b0.block < w.heap.size := (Array.getElem?_eq_some_iff.1 hrow).1
  have XF : Hid (F.answers w.tape) := hF
  have XK : Hid (∀ i, i < n → (key i).size ≤ 281474976710656) := hkey
  have XC : Hid (∀ i, i < n → ∃ b off, o = some ⟨b, off, none⟩ ∧ b < w.heap.size ∧ w.cell? ⟨b, off + i * 2, none⟩ = some (.string (key i)) ∧ w.cell? ⟨b, off + i * 2 + 1, none⟩ = some (.bool (req i))) := hc
  have XG : Hid (w.cell? ⟨0, 0, none⟩ = some (.iface 41 (.pointer (some b0))) ∧ w.cell? b0 = some (.string s0) ∧ w.heap[b0.block]? = some (.cells cb tb (0, 0)) ∧ 0 < w.heap.size ∧ b0.block < w.heap.size) := ⟨hg, ht, hrow, h0, hb0⟩
  clear hF hkey hc hg ht hrow h0 hb0
  have hmk := make24 n hn
  have hni : ¬ (n : Int) > 1024 := by omega
  go_enter Ybaf.func3, Ybaf.ntmps3
  go_upto_block 0 with fail
  clear hmk
  go_cut [18] from 29 (fun _ wd => Below w.heap.size w wd ∧ wd.heap.size = w.heap.size + 1 ∧ wd.rowIs w.heap.size 29 (n * 3) (fldF key req n))
  case first =>
    go_wp2_with fail
    go_loopw [18] (fun iv wr => ∃ k : Nat, k ≤ n ∧ iv = .int .i64 k ∧ Below w.heap.size w wr ∧ wr.heap.size = w.heap.size + 1 ∧ wr.rowIs w.heap.size 29 (n * 3) (fldF key req k)) (fun iv _ => n - (intOf iv).toNat)
    case atStart => exact ⟨0, Nat.zero_le _, rfl, (Below.refl _ _).alloc (Nat.le_refl _) _, by simp, mkF_row w n key req⟩
    case round =>
      obtain ⟨k, hk, rfl, hB, hS, hR⟩ := hrel
      have HH : Hid (Below w.heap.size w wr ∧ wr.heap.size = w.heap.size + 1 ∧ wr.rowIs w.heap.size 29 (n * 3) (fldF key req k)) := ⟨hB, hS, hR⟩
      by_cases hlt : k < n
      · obtain ⟨b, off, rfl, hbl, k0, k1⟩ := XC.out k hlt
        have hki : (k : Int) < n := by omega
        have c0 := (hB.cell (p := ⟨b, off + k * 2, none⟩) hbl).trans k0
        have c1 := (hB.cell (p := ⟨b, off + k * 2 + 1, none⟩) hbl).trans k1
        obtain ⟨u0, d0⟩ : ∃ v, wr.cell? ⟨w.heap.size, k * 3, none⟩ = some v := ⟨_, hR.cell (by omega)⟩
        obtain ⟨u1, d1⟩ : ∃ v, wr.cell? ⟨w.heap.size, k * 3 + 1, none⟩ = some v := ⟨_, hR.cell (by omega)⟩
        obtain ⟨u2, d2⟩ : ∃ v, wr.cell? ⟨w.heap.size, k * 3 + 2, none⟩ = some v := ⟨_, hR.cell (by omega)⟩
        have e0 := hR.frozen (k * 3)
        have e1 := hR.frozen (k * 3 + 1)
        have e2 := hR.frozen (k * 3 + 2)
        have hne : b ≠ w.heap.size := by omega
        clear hB hS hR k0 k1
        go_wp2
        go_region
        go_wp2
        go_roundw
        case rel =>
          refine ⟨k + 1, by omega, by go_num, ?_, ?_, fld_set HH.out.2.2⟩
          · exact (((HH.out.1.setCell (by show w.heap.size ≤ w.heap.size; omega) _).setCell (by show w.heap.size ≤ w.heap.size; omega) _).setCell (by show w.heap.size ≤ w.heap.size; omega) _).drew
          · simp [World.setCell, HH.out.2.1]
        case measure => simp [intOf]; omega
      · obtain rfl : k = n := by omega
        clear hB hS hR
        go_wp2
        go_meet
        case rel => exact HH.out
  case rest =>
    obtain ⟨hB, hS, hR⟩ := hcut
    have HH : Hid (Below w.heap.size w wc ∧ wc.heap.size = w.heap.size + 1 ∧ wc.rowIs w.heap.size 29 (n * 3) (fldF key req n)) := ⟨hB, hS, hR⟩
    obtain ⟨kk, hkk⟩ : ∃ kk, kk = outN req seen errAt hasErr hasUnk n notObj tw.toList.isEmpty := ⟨_, rfl⟩
    obtain ⟨W, hW⟩ : ∃ W, W = (wc.alloc (.cells #[.string ⟨#[122, 122, 32, 115, 101, 110, 116, 105, 110, 101, 108]⟩] 43)).alloc (.cells #[.int .u64 seen, .bool notObj, .int .i64 errAt, if hasErr then .iface 41 (.pointer (some ⟨w.heap.size + 1, 0, none⟩)) else .nilIface, .string tw, .string un, .bool hasUnk, .nilFunc] 36) := ⟨_, rfl⟩
    have hWb : Below wc.heap.size wc W := by rw [hW]; exact ((Below.refl _ _).alloc (Nat.le_refl _) _).alloc (by simp) _
    have hWs : W.heap.size = w.heap.size + 3 := by rw [hW]; simp [hS]
    have hbw : Below w.heap.size w W := hB.trans (hWb.mono (by omega))
    obtain ⟨g1, g2, g3, g4, g5⟩ := XG.out
    have hSrow : W.heap[w.heap.size + 1]? = some (.cells #[.string ⟨#[122, 122, 32, 115, 101, 110, 116, 105, 110, 101, 108]⟩] 43) := by
      have h := heap_alloc_new wc (.cells #[.string ⟨#[122, 122, 32, 115, 101, 110, 116, 105, 110, 101, 108]⟩] 43)
      rw [hS] at h
      rw [hW, Below.heap_alloc _ _ _ (by simp [hS])]
      exact h
    have hMrow : W.heap[w.heap.size + 2]? = some (.cells #[.int .u64 seen, .bool notObj, .int .i64 errAt, if hasErr then .iface 41 (.pointer (some ⟨w.heap.size + 1, 0, none⟩)) else .nilIface, .string tw, .string un, .bool hasUnk, .nilFunc] 36) := by
      have h := heap_alloc_new (wc.alloc (.cells #[.string ⟨#[122, 122, 32, 115, 101, 110, 116, 105, 110, 101, 108]⟩] 43)) (.cells #[.int .u64 seen, .bool notObj, .int .i64 errAt, if hasErr then .iface 41 (.pointer (some ⟨w.heap.size + 1, 0, none⟩)) else .nilIface, .string tw, .string un, .bool hasUnk, .nilFunc] 36)
      rw [World.size_alloc, hS] at h
      rw [hW]
      exact h
    have hSc : W.cell? ⟨w.heap.size + 1, 0, none⟩ = some (.string ⟨#[122, 122, 32, 115, 101, 110, 116, 105, 110, 101, 108]⟩) := by
      unfold World.cell?
      dsimp only
      rw [hSrow]
      rfl
    have hEE : EEnv (w.heap.size + 2) w.heap.size n seen notObj errAt (if hasErr then .iface 41 (.pointer (some ⟨w.heap.size + 1, 0, none⟩)) else .nilIface) tw un hasUnk key req b0 s0 W :=
      tail_env hR ((hB.cell (p := ⟨0, 0, none⟩) g4).trans g1) ((hB.cell g5).trans g2) (by omega) (by omega) (by omega) hWb (by omega) hMrow
    have XEnd : Hid (Calls Ybaf.prog 5 #[.pointer (some ⟨w.heap.size + 1 + 1, 0, none⟩), .slice (some ⟨w.heap.size, 0, none⟩) n n] W fun e w' => ∃ v, e = .returned v ∧ Ends kk b0 ⟨w.heap.size + 1, 0, none⟩ v w' ∧ Below W.heap.size W w') := by
      rw [hkk]
      exact end_any F (w.heap.size + 2) w.heap.size n n seen notObj errAt hasErr tw un hasUnk key req b0 ⟨w.heap.size + 1, 0, none⟩ s0 _ W (by rw [hbw.tape]; exact XF.out) hEE (by show w.heap.size + 1 < W.heap.size; omega) hSc hn hs XK.out
    have XMod : Hid (∀ W5, Below W.heap.size W W5 → Calls Ybaf.prog 6 #[.slice o n cap, .int .u64 seen, .bool notObj, .int .i64 errAt, .bool hasErr, .string tw, .bool hasUnk] W5 fun e w' => e = .returned (.int .i64 kk) ∧ W5 = w') := fun W5 h5 => by
      rw [hkk]
      have hb5 : Below w.heap.size w W5 := hbw.trans (h5.mono hbw.size)
      refine (model_any o n cap seen notObj errAt hasErr tw hasUnk req W5 hn hs (fun i hi => ?_)).mono fun e w' h => ⟨h.1, h.2.symm⟩
      obtain ⟨b, off, ho, hbl, _, hc2⟩ := XC.out i hi
      exact ⟨b, off, ho, (hb5.cell (p := ⟨b, off + i * 2 + 1, none⟩) hbl).trans hc2⟩
    have XCl : Hid (∀ W5 v, Below W.heap.size W W5 → Ends kk b0 ⟨w.heap.size + 1, 0, none⟩ v W5 → Calls Ybaf.prog 7 #[v, .iface 41 (.pointer (some ⟨w.heap.size + 1, 0, none⟩))] W5 fun e w' => e = .returned (.int .i64 kk) ∧ W5 = w') := fun W5 v h5 hv => by
      have hb5 : Below w.heap.size w W5 := hbw.trans (h5.mono hbw.size)
      refine (class_any kk b0 ⟨w.heap.size + 1, 0, none⟩ v cb _ tb _ W5 ((hb5.cell (p := ⟨0, 0, none⟩) g4).trans g1) ?_ ((hb5.block _ g5).trans g3) ((h5.block (w.heap.size + 1) (by omega)).trans hSrow) hv).mono fun e w' h => ⟨h.1, h.2.symm⟩
      intro e; have := congrArg Addr.block e; dsimp only at this; omega
    have HBW : Hid (Below w.heap.size w W) := hbw
    clear hB hR hkk hWb hWs hbw g1 g2 g3 g4 g5 hSrow hMrow hSc hEE
    cases hasErr
    · simp only [Bool.false_eq_true, if_false] at hW
      rw [hW] at XEnd
      have HWq : Hid (W = (wc.alloc (.cells #[.string ⟨#[122, 122, 32, 115, 101, 110, 116, 105, 110, 101, 108]⟩] 43)).alloc (.cells #[.int .u64 seen, .bool notObj, .int .i64 errAt, .nilIface, .string tw, .string un, .bool hasUnk, .nilFunc] 36)) := hW
      clear hW
      go_wp2_with (first | (go_at_call 4; refine (new_any _ _).mono ?_; rintro e w' ⟨rfl, rfl⟩) | (go_at_call 5; refine XEnd.out.mono ?_; rintro e w5 ⟨v, rfl, hv, hb5⟩; have HV : Hid (Ends kk b0 ⟨w.heap.size + 1, 0, none⟩ v w5 ∧ Below W.heap.size W w5) := ⟨hv, by rw [HWq.out]; exact hb5⟩; clear hv hb5) | (go_at_call 6; refine (XMod.out _ HV.out.2).mono ?_; rintro e w' ⟨rfl, rfl⟩) | (go_at_call 7; refine (XCl.out _ _ HV.out.2 HV.out.1).mono ?_; rintro e w' ⟨rfl, rfl⟩))
      go_ret
      exact ⟨rfl, HBW.out.trans (HV.out.2.mono HBW.out.size)⟩
    · simp only [if_true] at hW
      rw [hW] at XEnd
      have HWq : Hid (W = (wc.alloc (.cells #[.string ⟨#[122, 122, 32, 115, 101, 110, 116, 105, 110, 101, 108]⟩] 43)).alloc (.cells #[.int .u64 seen, .bool notObj, .int .i64 errAt, .iface 41 (.pointer (some ⟨w.heap.size + 1, 0, none⟩)), .string tw, .string un, .bool hasUnk, .nilFunc] 36)) := hW
      clear hW
      go_wp2_with (first | (go_at_call 4; refine (new_any _ _).mono ?_; rintro e w' ⟨rfl, rfl⟩) | (go_at_call 5; refine XEnd.out.mono ?_; rintro e w5 ⟨v, rfl, hv, hb5⟩; have HV : Hid (Ends kk b0 ⟨w.heap.size + 1, 0, none⟩ v w5 ∧ Below W.heap.size W w5) := ⟨hv, by rw [HWq.out]; exact hb5⟩; clear hv hb5) | (go_at_call 6; refine (XMod.out _ HV.out.2).mono ?_; rintro e w' ⟨rfl, rfl⟩) | (go_at_call 7; refine (XCl.out _ _ HV.out.2 HV.out.1).mono ?_; rintro e w' ⟨rfl, rfl⟩))
      go_ret
      exact ⟨rfl, HBW.out.trans (HV.out.2.mono HBW.out.size)⟩

/-- More fields than the law looks at: true at once. -/
theorem law_long (o : Option Addr) (n cap : Nat) (v1 v2 v3 v4 v5 v6 v7 : Value) (w : World) (hn : 1024 < n) :
    Calls Ybaf.prog 3 #[.slice o n cap, v1, v2, v3, v4, v5, v6, v7] w fun e w' => e = .returned (.bool true) ∧ Below w.heap.size w w' := by
  have hni : (n : Int) > 1024 := by omega
  go_enter Ybaf.func3, Ybaf.ntmps3
  go_wp2
  go_ret
  exact ⟨rfl, Below.refl _ _⟩
end Go.Proofs.YbulkbdywFmt
