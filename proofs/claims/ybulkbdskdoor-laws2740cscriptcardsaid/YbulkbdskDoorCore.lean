/-
  The law.
-/
import Derived.Test.YbulkbdskDoorPlays
namespace Go.Proofs.YbulkbdskDoor
open Go Go.RowKit

theorem law_start {w w5 : World} {g : Nat} {pf : Nat → Peer} {A : Array Value} {V : World} (hg : w.heap.size = g) (hT : Turn [] w w5) (T : Tor w5 g (newT g) pf 0 0 0 0 0 0 (fun _ => none) (fun _ => none) 0 0) (hs : w5.heap.size = g + 5)
    (hV : V = ((((w5.alloc (.cells A 32)).alloc (.cells #[.bool false, .bool false, .bool false, .bool false] 33)).alloc (.cells #[.bool false, .bool false, .bool false, .bool false] 33)).alloc (.cells #[.bool false, .bool false, .bool false, .bool false] 33)).alloc (.cells #[.int .u16 0, .int .u16 0, .int .u16 0, .int .u16 0] 35)) :
    LW w V g (.slice none 0 0) pf 0 0 (fun _ => false) (fun _ => false) (fun _ => false) (fun _ => 0) := by
  have ht : ∀ (W : World) o, Turn [] W (W.alloc o) := fun W o => (Turn.refl [] W).alloc o
  have hTV : Turn [] w5 V := by
    rw [hV]
    exact (((((ht _ _).trans (ht _ _)).trans (ht _ _)).trans (ht _ _)).trans (ht _ _))
  have b4 : ∀ j, j < 4 → (#[Value.bool false, .bool false, .bool false, .bool false] : Array Value)[j]? = some (.bool false) := fun j hj => by
    obtain rfl | rfl | rfl | rfl : j = 0 ∨ j = 1 ∨ j = 2 ∨ j = 3 := by omega
    all_goals rfl
  have u4 : ∀ j, j < 4 → (#[Value.int .u16 0, .int .u16 0, .int .u16 0, .int .u16 0] : Array Value)[j]? = some (.int .u16 0) := fun j hj => by
    obtain rfl | rfl | rfl | rfl : j = 0 ∨ j = 1 ∨ j = 2 ∨ j = 3 := by omega
    all_goals rfl
  have r5 : ((w5.alloc (.cells A 32)).alloc (.cells #[.bool false, .bool false, .bool false, .bool false] 33)).rowIs (g + 6) 33 4 (fun _ => .bool false) := by
    have h := World.alloc_heap_new (w5.alloc (.cells A 32)) (.cells #[.bool false, .bool false, .bool false, .bool false] 33)
    simp only [World.size_alloc, hs] at h
    exact ⟨_, h, rfl, b4⟩
  have r6 : (((w5.alloc (.cells A 32)).alloc (.cells #[.bool false, .bool false, .bool false, .bool false] 33)).alloc (.cells #[.bool false, .bool false, .bool false, .bool false] 33)).rowIs (g + 7) 33 4 (fun _ => .bool false) := by
    have h := World.alloc_heap_new ((w5.alloc (.cells A 32)).alloc (.cells #[.bool false, .bool false, .bool false, .bool false] 33)) (.cells #[.bool false, .bool false, .bool false, .bool false] 33)
    simp only [World.size_alloc, hs] at h
    exact ⟨_, h, rfl, b4⟩
  have r7 : ((((w5.alloc (.cells A 32)).alloc (.cells #[.bool false, .bool false, .bool false, .bool false] 33)).alloc (.cells #[.bool false, .bool false, .bool false, .bool false] 33)).alloc (.cells #[.bool false, .bool false, .bool false, .bool false] 33)).rowIs (g + 8) 33 4 (fun _ => .bool false) := by
    have h := World.alloc_heap_new (((w5.alloc (.cells A 32)).alloc (.cells #[.bool false, .bool false, .bool false, .bool false] 33)).alloc (.cells #[.bool false, .bool false, .bool false, .bool false] 33)) (.cells #[.bool false, .bool false, .bool false, .bool false] 33)
    simp only [World.size_alloc, hs] at h
    exact ⟨_, h, rfl, b4⟩
  have r8 : V.rowIs (g + 9) 35 4 (fun _ => .int .u16 0) := by
    have h := World.alloc_heap_new ((((w5.alloc (.cells A 32)).alloc (.cells #[.bool false, .bool false, .bool false, .bool false] 33)).alloc (.cells #[.bool false, .bool false, .bool false, .bool false] 33)).alloc (.cells #[.bool false, .bool false, .bool false, .bool false] 33)) (.cells #[.int .u16 0, .int .u16 0, .int .u16 0, .int .u16 0] 35)
    simp only [World.size_alloc, hs] at h
    rw [← hV] at h
    exact ⟨_, h, rfl, u4⟩
  refine ⟨(hT.trans hTV).below (by omega) (by simp), ⟨newT g, fun _ => none, fun _ => none, rfl, T.new hTV, ⟨fun j hj => by omega, fun x u hu => by cases hu⟩, ⟨fun j hj => by omega, fun x u hu => by cases hu⟩⟩, ?_, ?_, ?_, r8⟩
  · rw [hV]
    exact (((ht _ _).trans (ht _ _)).trans (ht _ _)).row r5 (by simp)
  · rw [hV]
    exact ((ht _ _).trans (ht _ _)).row r6 (by simp)
  · rw [hV]
    exact (ht _ _).row r7 (by simp)

set_option maxHeartbeats 40000000 in
set_option maxRecDepth 1000000 in
theorem law_core (ao : Option Addr) (len cap ob oo : Nat) (fa fb fk : Nat → Int) (fd fc fe : Nat → Bool) (w : World) (hlen : len ≤ 1024) (hix : ∀ k W, k < len → (Instr.indexAt 22 (.slice ao len cap) (.int .i64 (k : Int))).run Ybad.prog W = .ok (.pointer (some ⟨ob, oo + k * 6, none⟩)) W)
    (hcell : ∀ k, k < len → ∀ j, j < 6 → w.cell? ⟨ob, oo + k * 6 + j, none⟩ = some (opc (fa k) (fb k) (fd k) (fc k) (fe k) (fk k) j)) (hb : ∀ k, k < len → (0 ≤ fa k ∧ fa k ≤ 255) ∧ 0 ≤ fb k ∧ fb k ≤ 255) (hz : Z0 w) (h1 : 1 < w.heap.size) :
    Calls Ybad.prog 3 #[.slice ao len cap] w fun e w' => e = .returned (.bool true) ∧ Below w.heap.size w w' := by
  obtain ⟨g, hg⟩ : ∃ g, w.heap.size = g := ⟨_, rfl⟩
  have XH : Hid ((∀ k W, k < len → (Instr.indexAt 22 (.slice ao len cap) (.int .i64 (k : Int))).run Ybad.prog W = .ok (.pointer (some ⟨ob, oo + k * 6, none⟩)) W) ∧ (∀ k, k < len → ∀ j, j < 6 → w.cell? ⟨ob, oo + k * 6 + j, none⟩ = some (opc (fa k) (fb k) (fd k) (fc k) (fe k) (fk k) j)) ∧ (∀ k, k < len → (0 ≤ fa k ∧ fa k ≤ 255) ∧ 0 ≤ fb k ∧ fb k ≤ 255)) := ⟨hix, hcell, hb⟩
  have XG : Hid (w.heap.size = g) := hg
  have pf0 : Nat → Peer := fun _ => ⟨0, 0, false, false, 0⟩
  have X4 : Hid (Calls Ybad.prog 4 #[.map (some g)] (w.alloc (.map #[] 0)) fun e w' => e = .returned (.pointer (some ⟨g + 4, 0, none⟩)) ∧ Hid (Turn [] w w' ∧ Tor w' g (newT g) pf0 0 0 0 0 0 0 (fun _ => none) (fun _ => none) 0 0) ∧ w'.heap.size = g + 5) := by
    have hT : Turn [] w (w.alloc (.map #[] 0)) := (Turn.refl [] w).alloc _
    have hm : SM (w.alloc (.map #[] 0)) g 0 := by
      have := SM.made w
      rw [hg] at this
      exact this
    refine (newTorrent_any (w.alloc (.map #[] 0)) g pf0 (by simp [hg]) (hz.turn hT (by simp)) hm (by omega)).mono ?_
    rintro e w' ⟨rfl, hT', T, hs⟩
    exact ⟨rfl, ⟨hT.trans hT', T⟩, hs⟩
  have m26 := make26
  have hl1 : ¬ (1024 < (len : Int)) := by omega
  clear hix hcell hb hz h1
  rw [hg]
  go_enter Ybad.func3, Ybad.ntmps3
  go_upto_block 0 with (go_at_call 4; refine X4.out.mono ?_; rintro e w5 ⟨rfl, H5, hs5⟩)
  refine wp_world ?_
  intro V hV
  have X5 : Hid (LW w V g (.slice none 0 0) pf0 0 0 (fun _ => false) (fun _ => false) (fun _ => false) (fun _ => 0)) := law_start XG.out H5.out.1 H5.out.2 hs5 hV
  clear hV H5 hs5 X4 m26
  go_wp2_with fail
  go_loopw [9, 39] (fun x m wl => ∃ k dl : Nat, k ≤ len ∧ dl ≤ k ∧ x = .int .i64 (dl : Int) ∧ m = .int .i64 (k : Int) ∧ ∃ v pf n pr dn br po, LW w wl g v pf n dl pr dn br po ∧ Mod pr dn br po pf n) (fun _ m _ => len - (intOf m).toNat)
  case atStart => exact ⟨0, 0, by omega, by omega, rfl, rfl, _, _, _, _, _, _, _, X5.out, ⟨fun j hj => by omega, fun k _ h => by cases h⟩⟩
  case round =>
    obtain ⟨k, dl, hk, hdl, rfl, rfl, v, pf, n, pr, dn, br, po, hL, hM⟩ := hrel
    have XR : Hid (LW w wr g v pf n dl pr dn br po ∧ Mod pr dn br po pf n) := ⟨hL, hM⟩
    clear hL hM
    rcases Nat.lt_or_ge k len with h | h
    · have hkl : (k : Int) < (len : Int) := by omega
      go_upto_block 1 with fail
      refine law_round ao len cap g n dl k ob (oo + k * 6) v pf pr dn br po (fa k) (fb k) (fd k) (fc k) (fe k) (fk k) w wr _ _ _ _ _ _ _ _ _ _ _ _ _ _ _ _ _ _ _ _ _ _ _ _ _ _ _ _ _ _ _ _ _ _ _ _ _ _ _ _ _ _ _ _ _ _ _ _ _ _ _ _ _ _ _ _ _ _ _ _ _ _ _ _ _ _ _ _ _ _ _ _ _ _ _ _ _ _ _ _ _ _ _ _ _ _ _ _ _ _ _ _ _ _ _ _ _ _ _ _ _ _ _ _ _ _ _ _ _ _ _ _ _ _ _ _ _ _ _ _ _ _ _ _ _ _ _ _ _ _ _ _ _ _ _ _ _ _ _ _ _ _ _ _ _ _ _ _ _ _ _ _ _ _ _ _ _ _ _ _ _ _ _ _ _ _ _ _ _ _ _ _ _ _ _ _ _ _ _ _ _ _ _ _ _ _ _ _ _ _ _ _ _ _ _ _ _ _ _ _ _ _ _ _ _ _ _ _ _ _ _ _ _ _ _ _ _ _ _ _ _ _ _ _ _ _ _ _ _ _ _ _ _ _ _ _ _ _ _ _ _ _ _ _ _ _ _ _ _ _ _ _ _ _ _ _ _ _ _ _ _ _ _ _ _ _ _ _ _ _ _ _ _ _ _ _ _ _ _ _ _ _ _ _ _ _ _ _ _ _ _ _ _ _ _ _ _ _ _ _ _ _ _ _ _ _ _ _ _ _ _ _ _ _ _ _ _ _ _ _ _ _ _ _ _ _ _ _ _ _ _ _ _ _ _ _ _ _ _ _ _ _ _ _ _ _ _ _ _ XR.out.1 XR.out.2 (by omega) hdl (XH.out.2.2 k h) (fun W => XH.out.1 k W h) (fun j hj => ?_) ?_
      · have hc := XH.out.2.1 k h j hj
        rw [← hc]
        have hlt : ob < g := by
          rw [← XG.out]
          rcases Nat.lt_or_ge ob w.heap.size with e | e
          · exact e
          · rw [World.cell?, Array.getElem?_eq_none e] at hc
            cases hc
        exact World.cell?_of_block (XR.out.1.below.block ob hlt)
      · intros
        rename_i W' dl' hex hle
        obtain ⟨v', pf', n', pr', dn', br', po', hL', hM'⟩ := hex
        have XN : Hid (LW w W' g v' pf' n' dl' pr' dn' br' po' ∧ Mod pr' dn' br' po' pf' n') := ⟨hL', hM'⟩
        clear hL' hM'
        go_wp2_with fail
        refine ⟨?_, ?measure⟩
        · refine ⟨_, _, _, _, _, _, _, _, _, _, _, _, _, _, _, _, _, _, _, _, _, _, _, _, _, _, _, _, _, _, _, _, _, _, _, _, _, _, _, _, _, _, _, _, _, _, _, _, _, _, _, _, _, _, _, _, _, _, _, _, _, _, _, _, _, _, _, _, _, _, _, _, _, _, _, _, _, _, _, _, _, _, _, _, _, _, _, _, _, _, _, _, _, _, _, _, _, _, _, _, _, _, _, _, _, _, _, _, _, _, _, _, _, _, _, _, _, _, _, _, _, _, _, _, _, _, _, _, _, _, _, _, _, _, _, _, _, _, _, _, _, _, _, _, _, _, _, _, _, _, _, _, _, _, _, _, _, _, _, _, _, _, _, _, _, _, _, _, _, _, _, _, _, _, _, _, _, _, _, _, _, _, _, _, _, _, _, _, _, _, _, _, _, _, _, _, _, _, _, _, _, _, _, _, _, _, _, _, _, _, _, _, _, _, _, _, _, _, _, _, _, _, _, _, _, _, _, _, _, _, _, _, _, _, _, _, _, _, _, _, _, _, _, _, _, _, _, _, _, _, _, _, _, _, _, _, _, _, _, _, _, _, _, _, _, _, _, _, _, _, _, _, _, _, _, _, _, _, _, _, _, _, _, _, _, _, _, _, _, _, _, _, _, _, _, _, _, _, _, _, _, _, _, _, _, _, _, _, _, _, _, _, _, _, _, _, _, _, _, _, _, _, _, _, _, _, _, _, _, _, _, _, _, _, _, _, _, _, _, ?_, rfl⟩
          exact ⟨k + 1, dl', by omega, by omega, rfl, by simp, _, _, _, _, _, _, _, XN.out⟩
        case measure => simp [intOf]; omega
    · obtain rfl : k = len := by omega
      go_wp2_with fail
      go_ret
      exact ⟨rfl, XR.out.1.below⟩

end Go.Proofs.YbulkbdskDoor
