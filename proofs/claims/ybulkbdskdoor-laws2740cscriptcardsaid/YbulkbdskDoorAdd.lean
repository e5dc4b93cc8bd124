/-
  (*Index).Add.
-/
import Derived.Test.YbulkbdskDoorApp
import Derived.Test.YbulkbdskDoorJoin
namespace Go.Proofs.YbulkbdskDoor
open Go Go.RowKit

section
variable {w W w8 : World} {tb n1 n2 n3 n4 n mb : Nat} {tf0 tf : Nat → Value} {ids : Nat → Nat} {pos : Nat → Option Nat} {v : Value} {o : Obj}

theorem Ad.s1 (A : Ad w W tb tf0 tf n1 n2 n3 n4 n ids pos mb) (hg : (W.alloc o).grownBy w8 (tf 1).ownBlock)
    (ho : w8.ownsRow (tb + 1) 92 9 v (n1 + 1) ((List.range (n1 * 9)).map (fun k => zp (k % 9)) ++ [.int .u64 0, .int .u64 0, .pointer none, .int .u8 0, .int .u32 0, .string ⟨#[]⟩, .string ⟨#[]⟩, .string ⟨#[]⟩, .int .u8 0])) :
    Ad w (w8.setCell ⟨tb, 1, none⟩ v) tb tf0 (fun k => if k = 1 then v else tf k) (n1 + 1) n2 n3 n4 n ids pos mb := by
  obtain ⟨r, hf, hs, hk⟩ := app_done (j := 1) (g := fun k => zp (k % 9)) A.places A.row (by decide) A.fr hg ho (fun _ _ => rfl) (fun k hk => by
    have e : (n1 * 9 + k) % 9 = k := by omega
    rw [e]
    match k, hk with
    | 0, _ | 1, _ | 2, _ | 3, _ | 4, _ | 5, _ | 6, _ | 7, _ | 8, _ => rfl)
  obtain ⟨f, h2⟩ := A.keys
  obtain ⟨c, h3⟩ := A.complete
  obtain ⟨F, h4, hI⟩ := A.ins
  exact ⟨r, fun k h => by rw [if_neg (by omega)]; exact A.keep k h, hs, ⟨f, h2.of (fun b o hb ho ⟨c, e⟩ => hk b o hb ho (by rw [e]; simp))⟩, ⟨c, h3.of (fun b o hb ho ⟨c, e⟩ => hk b o hb ho (by rw [e]; simp))⟩, ⟨F, h4.of (fun b o hb ho ⟨c, e⟩ => hk b o hb ho (by rw [e]; simp)), hI⟩, A.grp.of2 (fun b o hb ho hn => hk b o hb ho (fun c => (hn c).1)), hf⟩

theorem Ad.s2 (A : Ad w W tb tf0 tf n1 n2 n3 n4 n ids pos mb) {f : Nat → Int} (h2 : Sl W tb 36 1 (tf 2) n2 (fun k => .int .u64 (f k))) (hg : (W.alloc o).grownBy w8 (tf 2).ownBlock)
    (ho : w8.ownsRow (tb + 1) 36 1 v (n2 + 1) ((List.range (n2 * 1)).map (fun k => Value.int .u64 (f k)) ++ [.int .u64 0])) :
    Ad w (w8.setCell ⟨tb, 2, none⟩ v) tb tf0 (fun k => if k = 2 then v else tf k) n1 (n2 + 1) n3 n4 n ids pos mb := by
  obtain ⟨r, hf, hs, hk⟩ := app_done (j := 2) (g := fun k => .int .u64 (if k < n2 then f k else 0)) h2 A.row (by decide) A.fr hg ho (fun k hk => by rw [Nat.mul_one] at hk; rw [if_pos hk]) (fun k hk => by
    obtain rfl : k = 0 := by omega
    simp)
  obtain ⟨c, h3⟩ := A.complete
  obtain ⟨F, h4, hI⟩ := A.ins
  exact ⟨r, fun k h => by rw [if_neg (by omega)]; exact A.keep k h, A.places.of (fun b o hb ho ⟨c, e⟩ => hk b o hb ho (by rw [e]; simp)), ⟨_, hs⟩, ⟨c, h3.of (fun b o hb ho ⟨c, e⟩ => hk b o hb ho (by rw [e]; simp))⟩, ⟨F, h4.of (fun b o hb ho ⟨c, e⟩ => hk b o hb ho (by rw [e]; simp)), hI⟩, A.grp.of2 (fun b o hb ho hn => hk b o hb ho (fun c => (hn c).2.1)), hf⟩

theorem Ad.s3 (A : Ad w W tb tf0 tf n1 n2 n3 n4 n ids pos mb) {f : Nat → Bool} (h3 : Sl W tb 4 1 (tf 3) n3 (fun k => .bool (f k))) (hg : (W.alloc o).grownBy w8 (tf 3).ownBlock)
    (ho : w8.ownsRow (tb + 1) 4 1 v (n3 + 1) ((List.range (n3 * 1)).map (fun k => Value.bool (f k)) ++ [.bool false])) :
    Ad w (w8.setCell ⟨tb, 3, none⟩ v) tb tf0 (fun k => if k = 3 then v else tf k) n1 n2 (n3 + 1) n4 n ids pos mb := by
  obtain ⟨r, hf, hs, hk⟩ := app_done (j := 3) (g := fun k => .bool (if k < n3 then f k else false)) h3 A.row (by decide) A.fr hg ho (fun k hk => by rw [Nat.mul_one] at hk; rw [if_pos hk]) (fun k hk => by
    obtain rfl : k = 0 := by omega
    simp)
  obtain ⟨c, h2⟩ := A.keys
  obtain ⟨F, h4, hI⟩ := A.ins
  exact ⟨r, fun k h => by rw [if_neg (by omega)]; exact A.keep k h, A.places.of (fun b o hb ho ⟨c, e⟩ => hk b o hb ho (by rw [e]; simp)), ⟨c, h2.of (fun b o hb ho ⟨c, e⟩ => hk b o hb ho (by rw [e]; simp))⟩, ⟨_, hs⟩, ⟨F, h4.of (fun b o hb ho ⟨c, e⟩ => hk b o hb ho (by rw [e]; simp)), hI⟩, A.grp.of2 (fun b o hb ho hn => hk b o hb ho (fun c => (hn c).2.2.1)), hf⟩

theorem Ad.s4 (A : Ad w W tb tf0 tf n1 n2 n3 n4 n ids pos mb) {F : Nat → Value} (h4 : Sl W tb 112 6 (tf 4) n4 F) (hI : ∀ i p, pos i = some p → InAt F mb i p ∧ i < n4) (hg : (W.alloc o).grownBy w8 (tf 4).ownBlock)
    (ho : w8.ownsRow (tb + 1) 112 6 v (n4 + 1) ((List.range (n4 * 6)).map F ++ [.pointer none, .int .i32 0, .pointer none, .int .i32 0, .pointer none, .int .i32 0])) :
    Ad w (w8.setCell ⟨tb, 4, none⟩ v) tb tf0 (fun k => if k = 4 then v else tf k) n1 n2 n3 (n4 + 1) n ids pos mb := by
  obtain ⟨r, hf, hs, hk⟩ := app_done (j := 4) (g := fun k => if k < n4 * 6 then F k else if (k - n4 * 6) % 2 = 0 then .pointer none else .int .i32 0) h4 A.row (by decide) A.fr hg ho (fun k hk => by rw [if_pos hk]) (fun k hk => by
    rw [if_neg (by omega), Nat.add_sub_cancel_left]
    match k, hk with
    | 0, _ | 1, _ | 2, _ | 3, _ | 4, _ | 5, _ => rfl)
  obtain ⟨c, h2⟩ := A.keys
  obtain ⟨d, h3⟩ := A.complete
  refine ⟨r, fun k h => by rw [if_neg (by omega)]; exact A.keep k h, A.places.of (fun b o hb ho ⟨c, e⟩ => hk b o hb ho (by rw [e]; simp)), ⟨c, h2.of (fun b o hb ho ⟨c, e⟩ => hk b o hb ho (by rw [e]; simp))⟩, ⟨d, h3.of (fun b o hb ho ⟨c, e⟩ => hk b o hb ho (by rw [e]; simp))⟩, ⟨_, hs, fun i p hp => ?_⟩, A.grp.of2 (fun b o hb ho hn => hk b o hb ho (fun c => (hn c).2.2.2)), hf⟩
  obtain ⟨⟨f0, f1, f2, f3, f4, f5⟩, hi⟩ := hI i p hp
  unfold InAt
  dsimp only
  rw [if_pos (by omega), if_pos (by omega), if_pos (by omega), if_pos (by omega), if_pos (by omega), if_pos (by omega)]
  exact ⟨f0, f1, f2, f3, f4, f5⟩
end

set_option maxHeartbeats 1000000 in
set_option maxRecDepth 100000 in
theorem add_any (tb n : Nat) (tf : Nat → Value) (w : World) (h : IxA w tb tf n) (hn : n < 3) :
    Calls Ybad.prog 16 #[.pointer (some ⟨tb, 1, none⟩), .agg #[.int .u64 0, .int .u64 0, .pointer none, .int .u8 0, .int .u32 0, .string ⟨#[]⟩, .string ⟨#[]⟩, .string ⟨#[]⟩, .int .u8 0]] w fun e w' => e = .returned (.tuple #[]) ∧ Fr tb TX w w' ∧ ∃ tf', (∀ k, k = 0 ∨ 7 ≤ k → tf' k = tf k) ∧ IxA w' tb tf' (n + 1) := by
  obtain ⟨ids, pos, mb, hx, ha⟩ := h
  have XI : Hid ((∀ k, k < n → ids k < n ∧ pos (ids k) = some k) ∧ (∀ i p, pos i = some p → p < n ∧ ids p = i) ∧ (∀ i, i < n → pos i ≠ none) ∧ tf 7 = .pointer none) := ⟨hx.idl, hx.posl, ha, hx.byKey⟩
  have X0 : Hid (∀ W, Turn [] w W → Ad w W tb tf tf n n n n n ids pos mb) := fun W hW => by
    have hx' := hx.turn hW (by simp)
    exact ⟨hx'.row, fun _ _ => rfl, hx'.places, hx'.keys, hx'.complete, hx'.ins, hx'.grp, Fr.ofTurn hW (by simp) (by simp)⟩
  clear hx ha
  obtain ⟨j1, hj1, hj2, hj3, hj4⟩ := info_parts info92
  go_enter Ybad.func16, Ybad.ntmps16
  go_wp2
  refine wp_world ?_
  intro W0 hW0
  have A0 := X0.out W0.drew (by rw [hW0]; exact ((Turn.refl [] w).alloc _).drew)
  have hb := row_new w #[.int .u64 0, .int .u64 0, .pointer none, .int .u8 0, .int .u32 0, .string ⟨#[]⟩, .string ⟨#[]⟩, .string ⟨#[]⟩, .int .u8 0] 92
  rw [← hW0] at hb
  obtain ⟨ao, cap, hv, XO, XG, XL⟩ := A0.places.arm A0.row
  have c1 : W0.cell? ⟨tb, 1, none⟩ = some (.slice ao n cap) := by rw [← hv]; exact A0.row.cell (i := 1) (by omega)
  have b0 := hb.cell (i := 0) (by simp)
  have b1 := hb.cell (i := 1) (by simp)
  have b2 := hb.cell (i := 2) (by simp)
  have b3 := hb.cell (i := 3) (by simp)
  have b4 := hb.cell (i := 4) (by simp)
  have b5 := hb.cell (i := 5) (by simp)
  have b6 := hb.cell (i := 6) (by simp)
  have b7 := hb.cell (i := 7) (by simp)
  have b8 := hb.cell (i := 8) (by simp)
  have YO : Hid (∀ o, (W0.drew.alloc o).ownsRow (tb + 1) 92 9 (.slice ao n cap) n ((List.range (n * 9)).map (fun k => zp (k % 9)))) := XO
  have YG : Hid (∀ o w8, (W0.drew.alloc o).grownBy w8 (Value.slice ao n cap).ownBlock → w8.rowIs tb 75 17 tf) := XG
  have YA : Hid (Ad w W0.drew tb tf tf n n n n n ids pos mb ∧ tf 1 = .slice ao n cap) := ⟨A0, hv⟩
  have hl : tb < W0.heap.size := XL
  clear A0 hb hW0 XO XG XL hv
  go_cut [3] from 4 (fun _ wc => ∃ tf1, Ad w wc tb tf tf1 (n + 1) n n n n ids pos mb)
  case first =>
    go_region_law (refine step_append_own rfl (.tmp 8) (.tmp 10) 62 rfl (tb + 1) 92 j1 (.agg #[.int .u64 0, .int .u64 0, .pointer none, .int .u8 0, .int .u32 0, .string ⟨#[]⟩, .string ⟨#[]⟩, .string ⟨#[]⟩, .int .u8 0]) 9 96 Ybad.underlying62 hj1 hj2 hj3 hj4 rfl (by decide) _ n _ rfl (YO.out _) ⟨_, 0, none⟩ 1 1 [.int .u64 0, .int .u64 0, .pointer none, .int .u8 0, .int .u32 0, .string ⟨#[]⟩, .string ⟨#[]⟩, .string ⟨#[]⟩, .int .u8 0] rfl rfl (news_new W0.drew _ _) (by simp [Value.oneCell']) (by unfold maxLen; omega) (by omega) (by simp; omega) ?_; intro v' w8 hown' hgrow hnil hloc; obtain ⟨g', cap', rfl⟩ := own_succ hown'; have r8 := YG.out _ _ hgrow; have c8 := r8.cell (i := 1) (by omega); have n8 := r8.frozen 1; have H8 : Hid (w8.ownsRow (tb + 1) 92 9 (.slice (some ⟨g', 0, none⟩) (n + 1) cap') (n + 1) ((List.range (n * 9)).map (fun k => zp (k % 9)) ++ [.int .u64 0, .int .u64 0, .pointer none, .int .u8 0, .int .u32 0, .string ⟨#[]⟩, .string ⟨#[]⟩, .string ⟨#[]⟩, .int .u8 0]) ∧ (W0.drew.alloc (.cells #[.int .u64 0, .int .u64 0, .pointer none, .int .u8 0, .int .u32 0, .string ⟨#[]⟩, .string ⟨#[]⟩, .string ⟨#[]⟩, .int .u8 0] 92)).grownBy w8 (Value.slice ao n cap).ownBlock) := ⟨hown', hgrow⟩; clear hown' hgrow hnil hloc r8)
    all_goals (go_wp2_with fail; go_meet; case rel => exact ⟨_, YA.out.1.s1 (by rw [YA.out.2]; exact H8.out.2) H8.out.1⟩)
  case rest =>
    clear YA YG YO c1 b0 b1 b2 b3 b4 b5 b6 b7 b8 hl
    obtain ⟨W1, hW1⟩ : ∃ W1, W1 = wc := ⟨_, rfl⟩
    rw [← hW1] at hcut ⊢
    clear hW1
    obtain ⟨tf1, A1⟩ := hcut
    obtain ⟨f2, hs2⟩ := A1.keys
    obtain ⟨ao2, cap2, hv2, XO2, XG2, XL2⟩ := hs2.arm A1.row
    have c2 : W1.cell? ⟨tb, 2, none⟩ = some (.slice ao2 n cap2) := by rw [← hv2]; exact A1.row.cell (i := 2) (by omega)
    have Y2 : Hid ((∀ o, (W1.alloc o).ownsRow (tb + 1) 36 1 (.slice ao2 n cap2) n ((List.range (n * 1)).map (fun k => Value.int .u64 (f2 k)))) ∧ (∀ o w8, (W1.alloc o).grownBy w8 (Value.slice ao2 n cap2).ownBlock → w8.rowIs tb 75 17 tf1)) := ⟨XO2, XG2⟩
    have Z2 : Hid (Ad w W1 tb tf tf1 (n + 1) n n n n ids pos mb ∧ tf1 2 = .slice ao2 n cap2 ∧ Sl W1 tb 36 1 (tf1 2) n (fun k => .int .u64 (f2 k))) := ⟨A1, hv2, hs2⟩
    obtain ⟨k1, hk1, hk2, hk3, hk4⟩ := info_parts info36
    clear A1 XO2 XG2 hv2 hs2
    go_upto_region 3 with (at_builtin; refine wpList_append_own_at _ rfl (.tmp 18) (.tmp 19) 63 rfl (tb + 1) 36 k1 (.int .u64 0) 1 8 Ybad.underlying63 hk1 hk2 hk3 hk4 rfl (by decide) _ n _ rfl (Y2.out.1 _) ⟨_, 0, none⟩ 1 1 [.int .u64 0] rfl rfl (cell_one_new _ _ _) (by simp [Value.oneCell']) (by unfold maxLen; omega) (by omega) (by simp; omega) ?_; intro v' w8 hown' hgrow hnil hloc; obtain ⟨g', cap', rfl⟩ := own_succ hown'; have r8 := Y2.out.2 _ _ hgrow; have c8 := r8.cell (i := 2) (by omega); have n8 := r8.frozen 2; have H8 : Hid (w8.ownsRow (tb + 1) 36 1 (.slice (some ⟨g', 0, none⟩) (n + 1) cap') (n + 1) ((List.range (n * 1)).map (fun k => Value.int .u64 (f2 k)) ++ [.int .u64 0]) ∧ (W1.alloc (.cells #[.int .u64 0] 36)).grownBy w8 (Value.slice ao2 n cap2).ownBlock) := ⟨hown', hgrow⟩; clear hown' hgrow hnil hloc r8)
    refine wp_world ?_
    intro W2 hW2
    obtain ⟨tf2, A2⟩ : ∃ tf2, Ad w W2 tb tf tf2 (n + 1) (n + 1) n n n ids pos mb := by
      have A' := Z2.out.1.s2 Z2.out.2.2 (by rw [Z2.out.2.1]; exact H8.out.2) H8.out.1
      rw [← hW2] at A'
      exact ⟨_, A'⟩
    clear hW2 H8 c8 n8 Y2 Z2 c2 XL2
    obtain ⟨f3, hs3⟩ := A2.complete
    obtain ⟨ao3, cap3, hv3, XO3, XG3, XL3⟩ := hs3.arm A2.row
    have c3 : W2.cell? ⟨tb, 3, none⟩ = some (.slice ao3 n cap3) := by rw [← hv3]; exact A2.row.cell (i := 3) (by omega)
    have Y3 : Hid ((∀ o, (W2.alloc o).ownsRow (tb + 1) 4 1 (.slice ao3 n cap3) n ((List.range (n * 1)).map (fun k => Value.bool (f3 k)))) ∧ (∀ o w8, (W2.alloc o).grownBy w8 (Value.slice ao3 n cap3).ownBlock → w8.rowIs tb 75 17 tf2)) := ⟨XO3, XG3⟩
    have Z3 : Hid (Ad w W2 tb tf tf2 (n + 1) (n + 1) n n n ids pos mb ∧ tf2 3 = .slice ao3 n cap3 ∧ Sl W2 tb 4 1 (tf2 3) n (fun k => .bool (f3 k))) := ⟨A2, hv3, hs3⟩
    obtain ⟨l1, hl1, hl2, hl3, hl4⟩ := info_parts info4
    clear A2 XO3 XG3 hv3 hs3
    go_upto_region 4 with (at_builtin; refine wpList_append_own_at _ rfl (.tmp 27) (.tmp 28) 64 rfl (tb + 1) 4 l1 (.bool false) 1 1 Ybad.underlying64 hl1 hl2 hl3 hl4 rfl (by decide) _ n _ rfl (Y3.out.1 _) ⟨_, 0, none⟩ 1 1 [.bool false] rfl rfl (cell_one_new _ _ _) (by simp [Value.oneCell']) (by unfold maxLen; omega) (by omega) (by simp; omega) ?_; intro v' w8 hown' hgrow hnil hloc; obtain ⟨g', cap', rfl⟩ := own_succ hown'; have r8 := Y3.out.2 _ _ hgrow; have c8 := r8.cell (i := 3) (by omega); have n8 := r8.frozen 3; have H8 : Hid (w8.ownsRow (tb + 1) 4 1 (.slice (some ⟨g', 0, none⟩) (n + 1) cap') (n + 1) ((List.range (n * 1)).map (fun k => Value.bool (f3 k)) ++ [.bool false]) ∧ (W2.alloc (.cells #[.bool false] 4)).grownBy w8 (Value.slice ao3 n cap3).ownBlock) := ⟨hown', hgrow⟩; clear hown' hgrow hnil hloc r8)
    refine wp_world ?_
    intro W3 hW3
    obtain ⟨tf3, A3⟩ : ∃ tf3, Ad w W3 tb tf tf3 (n + 1) (n + 1) (n + 1) n n ids pos mb := by
      have A' := Z3.out.1.s3 Z3.out.2.2 (by rw [Z3.out.2.1]; exact H8.out.2) H8.out.1
      rw [← hW3] at A'
      exact ⟨_, A'⟩
    clear hW3 H8 c8 n8 Y3 Z3 c3 XL3
    obtain ⟨F4, hs4, hI4⟩ := A3.ins
    obtain ⟨ao4, cap4, hv4, XO4, XG4, XL4⟩ := hs4.arm A3.row
    have c4 : W3.cell? ⟨tb, 4, none⟩ = some (.slice ao4 n cap4) := by rw [← hv4]; exact A3.row.cell (i := 4) (by omega)
    have Y4 : Hid ((∀ o, (W3.alloc o).ownsRow (tb + 1) 112 6 (.slice ao4 n cap4) n ((List.range (n * 6)).map F4)) ∧ (∀ o w8, (W3.alloc o).grownBy w8 (Value.slice ao4 n cap4).ownBlock → w8.rowIs tb 75 17 tf3)) := ⟨XO4, XG4⟩
    have Z4 : Hid (Ad w W3 tb tf tf3 (n + 1) (n + 1) (n + 1) n n ids pos mb ∧ tf3 4 = .slice ao4 n cap4 ∧ Sl W3 tb 112 6 (tf3 4) n F4 ∧ ∀ i p, pos i = some p → InAt F4 mb i p) := ⟨A3, hv4, hs4, hI4⟩
    obtain ⟨m1, hm1, hm2, hm3, hm4⟩ := info_parts info112
    clear A3 XO4 XG4 hv4 hs4 hI4
    go_upto_region 5 with (at_builtin; refine wpList_append_own_at _ rfl (.tmp 36) (.tmp 38) 65 rfl (tb + 1) 112 m1 (.agg #[.pointer none, .int .i32 0, .pointer none, .int .i32 0, .pointer none, .int .i32 0]) 6 48 Ybad.underlying65 hm1 hm2 hm3 hm4 rfl (by decide) _ n _ rfl (Y4.out.1 _) ⟨_, 0, none⟩ 1 1 [.pointer none, .int .i32 0, .pointer none, .int .i32 0, .pointer none, .int .i32 0] rfl rfl (news_new W3 _ _) (by simp [Value.oneCell']) (by unfold maxLen; omega) (by omega) (by simp; omega) ?_; intro v' w8 hown' hgrow hnil hloc; obtain ⟨g', cap', rfl⟩ := own_succ hown'; have r8 := Y4.out.2 _ _ hgrow; have c8 := r8.cell (i := 4) (by omega); have n8 := r8.frozen 4; have H8 : Hid (w8.ownsRow (tb + 1) 112 6 (.slice (some ⟨g', 0, none⟩) (n + 1) cap') (n + 1) ((List.range (n * 6)).map F4 ++ [.pointer none, .int .i32 0, .pointer none, .int .i32 0, .pointer none, .int .i32 0]) ∧ (W3.alloc (.cells #[.pointer none, .int .i32 0, .pointer none, .int .i32 0, .pointer none, .int .i32 0] 112)).grownBy w8 (Value.slice ao4 n cap4).ownBlock) := ⟨hown', hgrow⟩; clear hown' hgrow hnil hloc r8)
    refine wp_world ?_
    intro W4 hW4
    obtain ⟨tf4, A4⟩ : ∃ tf4, Ad w W4 tb tf tf4 (n + 1) (n + 1) (n + 1) (n + 1) n ids pos mb := by
      have A' := Z4.out.1.s4 Z4.out.2.2.1 (fun i p hp => ⟨Z4.out.2.2.2 i p hp, by obtain ⟨q1, q2⟩ := XI.out.2.1 i p hp; have := (XI.out.1 p q1).1; omega⟩) (by rw [Z4.out.2.1]; exact H8.out.2) H8.out.1
      rw [← hW4] at A'
      exact ⟨_, A'⟩
    clear hW4 H8 c8 n8 Y4 Z4 c4 XL4
    have hx4 : Ix W4 tb tf4 (n + 1) n ids pos mb := ⟨A4.row, by omega, by omega, fun k hk => ⟨by have := (XI.out.1 k hk).1; omega, (XI.out.1 k hk).2⟩, XI.out.2.1, by rw [A4.keep 7 (by omega)]; exact XI.out.2.2.2, A4.places, A4.keys, A4.complete, A4.ins, A4.grp⟩
    have hpn : pos n = none := by
      cases e : pos n with
      | none => rfl
      | some p =>
        obtain ⟨q1, q2⟩ := XI.out.2.1 n p e
        have := (XI.out.1 p q1).1
        omega
    have X28 := join_any tb n (n + 1) n mb tf4 ids pos W4 hx4 hpn (by omega) (by omega)
    obtain ⟨ao5, cap5, hv5⟩ := A4.places.form
    have c5 : W4.cell? ⟨tb, 1, none⟩ = some (.slice ao5 (n + 1) cap5) := by rw [← hv5]; exact A4.row.cell (i := 1) (by omega)
    have Z5 : Hid (Ad w W4 tb tf tf4 (n + 1) (n + 1) (n + 1) (n + 1) n ids pos mb) := A4
    clear A4 hx4 hpn hv5
    go_wp2_with (go_at_call 28; refine X28.mono ?_; clear X28; rintro e w6 ⟨rfl, hf6, tf6, mb6, ht6, hx6⟩)
    go_end0
    exact ⟨rfl, Z5.out.fr.trans (hf6.mono (Nat.le_refl _) (by decide)), tf6, fun k hk => (ht6 k (by omega) (by omega)).trans (Z5.out.keep k (by omega)), _, _, _, hx6, fun j hj => by
      split
      · simp
      · exact XI.out.2.2.1 j (by omega)⟩

end Go.Proofs.YbulkbdskDoor
