/-
  sourceOf, Lookup at the zero address.
-/
import Derived.Test.YbulkbdskDoorNet
import Derived.Test.YbulkbdskDoorSwapped
namespace Go.Proofs.YbulkbdskDoor
open Go Go.RowKit

set_option maxHeartbeats 1000000 in
set_option maxRecDepth 100000 in
theorem sourceOf_any (w : World) (h : Z0 w) : Calls Ybad.prog 25 #[adV] w fun e w' => e = .returned (srcV 0) ∧ Turn [] w w' := by
  have X32 : Hid (∀ W, Calls Ybad.prog 32 #[.agg #[.int .u64 0, .int .u64 0, .pointer none]] W fun e w' => e = .returned (.agg #[.int .u8 0, .int .u8 0, .int .u8 0, .int .u8 0, .int .u8 0, .int .u8 0, .int .u8 0, .int .u8 0, .int .u8 0, .int .u8 0, .int .u8 0, .int .u8 0, .int .u8 0, .int .u8 0, .int .u8 0, .int .u8 0]) ∧ Turn [] W w') := as16_any
  have X38 : Hid (∀ W, Z0 W → Calls Ybad.prog 38 #[.agg #[.int .u64 0, .int .u64 0, .pointer none]] W fun e w' => e = .returned (.bool false) ∧ Turn [] W w') := is6_any
  have hb : (((w.alloc (.cells #[.int .u64 0, .int .u64 0, .pointer none] 46)).alloc (.cells #[.int .u8 0, .int .u8 0, .int .u8 0, .int .u8 0, .int .u8 0, .int .u8 0, .int .u8 0, .int .u8 0, .int .u8 0, .int .u8 0, .int .u8 0, .int .u8 0, .int .u8 0, .int .u8 0, .int .u8 0, .int .u8 0] 104))).rowIs w.heap.size 46 3 (fun k => (#[Value.int .u64 0, .int .u64 0, .pointer none][k]?).getD undef) := (row_new w _ 46).alloc _
  have hb2 : (((w.alloc (.cells #[.int .u64 0, .int .u64 0, .pointer none] 46)).alloc (.cells #[.int .u8 0, .int .u8 0, .int .u8 0, .int .u8 0, .int .u8 0, .int .u8 0, .int .u8 0, .int .u8 0, .int .u8 0, .int .u8 0, .int .u8 0, .int .u8 0, .int .u8 0, .int .u8 0, .int .u8 0, .int .u8 0] 104))).rowIs (w.heap.size + 1) 104 16 (fun k => (z16[k]?).getD undef) := by
    have := row_new (w.alloc (.cells #[.int .u64 0, .int .u64 0, .pointer none] 46)) z16 104
    rw [World.size_alloc] at this
    exact this
  have XB : Hid (∀ W, Turn [] ((w.alloc (.cells #[.int .u64 0, .int .u64 0, .pointer none] 46)).alloc (.cells #[.int .u8 0, .int .u8 0, .int .u8 0, .int .u8 0, .int .u8 0, .int .u8 0, .int .u8 0, .int .u8 0, .int .u8 0, .int .u8 0, .int .u8 0, .int .u8 0, .int .u8 0, .int .u8 0, .int .u8 0, .int .u8 0] 104)) W → (W.rowIs (w.heap.size + 1) 104 16 (fun k => (z16[k]?).getD undef) ∧ Z0 W ∧ Turn [] w W) ∧ W.cell? ⟨w.heap.size, 0, none⟩ = some (.int .u64 0) ∧ W.cell? ⟨w.heap.size, 1, none⟩ = some (.int .u64 0) ∧ W.cell? ⟨w.heap.size, 2, none⟩ = some (.pointer none) ∧ w.heap.size < W.heap.size) := fun W hW => by
    have hT : Turn [] w W := (((Turn.refl [] w).alloc _).alloc _).trans hW
    have r := hW.row hb (by simp)
    exact ⟨⟨hW.row hb2 (by simp), h.turn hT (by simp), hT⟩, r.cell (by omega), r.cell (by omega), r.cell (by omega), r.lt⟩
  clear h hb hb2
  unfold adV
  go_enter Ybad.func25, Ybad.ntmps25
  go_upto_region 2 with (go_at_call 32; refine (X32.out _).mono ?_; rintro e w2 ⟨rfl, HT⟩)
  refine wp_world ?_
  intro V hV
  have hTV : Turn [] w2 V := by rw [hV]; exact (Turn.refl [] w2).alloc _
  obtain ⟨HB, a0, a1, a2, al⟩ := XB.out V (HT.trans hTV)
  have hr : V.rowIs w2.heap.size 104 16 (fun k => (z16[k]?).getD undef) := by rw [hV]; exact row_new w2 z16 104
  have XV : Hid ((V.rowIs (w.heap.size + 1) 104 16 (fun k => (z16[k]?).getD undef) ∧ Z0 V ∧ Turn [] w V) ∧ V.rowIs w2.heap.size 104 16 (fun k => (z16[k]?).getD undef)) := ⟨HB, hr⟩
  clear hV hTV HB hr
  have X39 : Hid (∀ W, Turn [] V W → W.rangeAt w2.heap.size 0 z16.toList ∧ W.there (w.heap.size + 1) 0 z16.toList.toArray.size) := fun W hW =>
    ⟨row_range (hW.row XV.out.2 (by simp)) 0 z16.toList (by simp [z16]) z16_at, fun k hk => by
      have r := hW.row XV.out.1.1 (by simp)
      have hk' : k < 16 := by simpa [z16] using hk
      exact ⟨by rw [r.cell (by omega)]; rfl, r.frozen _⟩⟩
  go_wp2_with (first | (go_at_call 38; refine (X38.out V XV.out.1.2.1).mono ?_; rintro e w3 ⟨rfl, HT3⟩) | (refine wpList_load_mid rfl 104 (.tmp 3) rfl w2.heap.size 0 rfl z16.toList _ (X39.out w3 HT3).1 Ybad.underlying104 rfl size104 ?_) | (refine wpList_store_mid rfl 104 (.tmp 2) (.tmp 9) rfl (w.heap.size + 1) 0 z16.toList.toArray rfl rfl (X39.out w3 HT3).2 size104 (by simp [z16, Value.oneCell']) ?_))
  have hrg : w3.rangeAt (w.heap.size + 1) 0 z16.toList := row_range (HT3.row XV.out.1.1 (by simp)) 0 z16.toList (by simp [z16]) z16_at
  rw [setCells_id hrg]
  exact bodyPost_ret (res_cell rfl rfl (run_loadVar_mid _ _ _ _ z16.toList _ hrg Ybad.underlying104 rfl size104)) rfl ⟨rfl, XV.out.1.2.2.trans HT3⟩

set_option maxHeartbeats 1000000 in
set_option maxRecDepth 100000 in
theorem lookup_any (db : Option Addr) (w : World) (h : Z0 w) : Calls Ybad.prog 21 #[.pointer db, adV] w fun e w' => e = .returned (.tuple #[.agg #[.int .u64 0, .int .u64 0, .pointer none, .int .u8 0, .int .u32 0, .string ⟨#[]⟩, .string ⟨#[]⟩, .string ⟨#[]⟩, .int .u8 0], .bool false]) ∧ Turn [] w w' := by
  have X31 : Hid (∀ W, Z0 W → Calls Ybad.prog 31 #[.agg #[.int .u64 0, .int .u64 0, .pointer none]] W fun e w' => e = .returned (.bool false) ∧ Turn [] W w') := isValid_any
  have XZ : Hid (Z0 w) := h
  clear h
  unfold adV
  go_enter Ybad.func21, Ybad.ntmps21
  go_upto_region 1 with fail
  refine wp_world ?_
  intro V hV
  have hT : Turn [] w V := by rw [hV]; exact (((Turn.refl [] w).alloc _).alloc _).alloc _
  have hr1 : V.rowIs (w.heap.size + 1) 46 3 (fun k => (#[Value.int .u64 0, .int .u64 0, .pointer none][k]?).getD undef) := by
    rw [hV]
    have := row_new (w.alloc (.cells #[.pointer db] 27)) #[.int .u64 0, .int .u64 0, .pointer none] 46
    rw [World.size_alloc] at this
    exact this.alloc _
  have hr2 : V.rowIs (w.heap.size + 1 + 1) 92 9 zp := by
    rw [hV]
    have := row_new ((w.alloc (.cells #[.pointer db] 27)).alloc (.cells #[.int .u64 0, .int .u64 0, .pointer none] 46)) #[.int .u64 0, .int .u64 0, .pointer none, .int .u8 0, .int .u32 0, .string ⟨#[]⟩, .string ⟨#[]⟩, .string ⟨#[]⟩, .int .u8 0] 92
    rw [World.size_alloc, World.size_alloc] at this
    refine this.congr (fun k hk => ?_)
    have hk : k < 9 := hk
    obtain rfl | rfl | rfl | rfl | rfl | rfl | rfl | rfl | rfl : k = 0 ∨ k = 1 ∨ k = 2 ∨ k = 3 ∨ k = 4 ∨ k = 5 ∨ k = 6 ∨ k = 7 ∨ k = 8 := by omega
    all_goals rfl
  have a0 := hr1.cell (i := 0) (by omega)
  have a1 := hr1.cell (i := 1) (by omega)
  have a2 := hr1.cell (i := 2) (by omega)
  simp only [List.getElem?_toArray, List.getElem?_cons_zero, List.getElem?_cons_succ, Option.getD_some] at a0 a1 a2
  have XV : Hid (V.rowIs (w.heap.size + 1 + 1) 92 9 zp ∧ Turn [] w V) := ⟨hr2, hT⟩
  clear hV hr1 hr2 hT
  have X40 : Hid (∀ W, Turn [] V W → W.rangeAt (w.heap.size + 1 + 1) 0 [.int .u64 0, .int .u64 0, .pointer none, .int .u8 0, .int .u32 0, .string ⟨#[]⟩, .string ⟨#[]⟩, .string ⟨#[]⟩, .int .u8 0] ∧ W.there (w.heap.size + 1 + 1) 0 9) := fun W hW => by
    have r := hW.row XV.out.1 (by simp)
    refine ⟨row_range r 0 _ (by simp) (fun k hk => ?_), fun k hk => ⟨by rw [r.cell (by omega)]; rfl, r.frozen _⟩⟩
    match k, hk with
    | 0, _ | 1, _ | 2, _ | 3, _ | 4, _ | 5, _ | 6, _ | 7, _ | 8, _ => rfl
  go_wp2_with (first | (go_at_call 31; refine (X31.out V (XZ.out.turn XV.out.2 (by simp))).mono ?_; rintro e w3 ⟨rfl, HT3⟩) | (refine wpList_store_mid rfl 92 (.tmp 4) (.tmp 14) rfl (w.heap.size + 1 + 1) 0 #[.int .u64 0, .int .u64 0, .pointer none, .int .u8 0, .int .u32 0, .string ⟨#[]⟩, .string ⟨#[]⟩, .string ⟨#[]⟩, .int .u8 0] rfl rfl (X40.out w3 HT3).2 size92 (by simp [Value.oneCell']) ?_))
  have hrg := (X40.out w3 HT3).1
  rw [setCells_id hrg]
  exact bodyPost_ret (res_cell_tmp rfl rfl (run_loadVar_mid _ _ _ _ _ _ hrg Ybad.underlying92 rfl size92) rfl) rfl ⟨rfl, XV.out.2.trans HT3⟩

end Go.Proofs.YbulkbdskDoor
