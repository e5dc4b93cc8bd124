/-
  (*Index).SetKey, Set, SetComplete.
-/
import Derived.Test.YbulkbdskDoorJoin
import Derived.Test.YbulkbdskDoorLeave
import Derived.Test.YbulkbdskDoorRows2
namespace Go.Proofs.YbulkbdskDoor
open Go Go.RowKit

theorem Ix.keyset {W : World} {tb n m mb i : Nat} {tf : Nat → Value} {ids : Nat → Nat} {pos : Nat → Option Nat} (h : Ix W tb tf n m ids pos mb) (hi : i < n) (k : Int) :
    ∃ kb kcap, W.cell? ⟨tb, 2, none⟩ = some (.slice (some ⟨kb, 0, none⟩) n kcap) ∧ (∃ u, W.cell? ⟨kb, i, none⟩ = some u) ∧ W.frozen? ⟨kb, i, none⟩ = false ∧ Ix (W.setCell ⟨kb, i, none⟩ (.int .u64 k)) tb tf n m ids pos mb ∧ Fr tb TX W (W.setCell ⟨kb, i, none⟩ (.int .u64 k)) := by
  obtain ⟨f, hf⟩ := h.keys
  obtain ⟨kb, kcap, K, hv, htb, hcap, hmax, hR, hK⟩ := hf.pos (by omega)
  have hf' := hf
  rw [hv] at hf'
  refine ⟨kb, kcap, by rw [h.row.cell (by omega), hv], ⟨_, hR.cell (by omega)⟩, hR.frozen i, h.rows (fun b o ho hx hn => ?_) (h.places.other hR (by decide) _ _) ⟨fun j => if j = i then k else f j, ?_⟩ ?_, (Fr.refl tb TX W).setCell (p := ⟨kb, i, none⟩) hR (by show tb ≤ kb; omega) (by decide) _⟩
  · rw [Below.heap_setCell]
    · exact ho
    · intro e
      have e : b = kb := e
      subst e
      obtain ⟨c, hc, _⟩ := hR
      rw [hc] at ho
      cases ho
      exact absurd rfl (hn c).2.1
  · rw [hv]
    refine (hf'.set (k := i) (.int .u64 k)).congr (fun j _ => ?_)
    by_cases e : j = i <;> simp [e]
  · obtain ⟨c, hc⟩ := h.complete
    exact ⟨c, hc.other hR (by decide) _ _⟩

/-- Left, and joined again: all are in. -/
theorem all_again {w : World} {tb n i p mb : Nat} {tf : Nat → Value} {ids : Nat → Nat} {pos : Nat → Option Nat} (hi : i < n) (ha : ∀ j, j < n → pos j ≠ none)
    (h : Ix w tb tf n (n - 1 + 1) (fun k => if k = n - 1 then i else if k = p then ids (n - 1) else ids k) (fun j => if j = i then some (n - 1) else if j = i then none else if j = ids (n - 1) then some p else pos j) mb) : IxA w tb tf n := by
  rw [Nat.sub_add_cancel (by omega)] at h
  refine ⟨_, _, _, h, fun j hj => ?_⟩
  split
  · simp
  · rename_i e
    split
    · simp
    · exact ha j hj

set_option maxHeartbeats 1000000 in
set_option maxRecDepth 100000 in
theorem setKey_any (tb i n : Nat) (k : Int) (tf : Nat → Value) (w : World) (h : IxA w tb tf n) (hi : i < n) :
    Calls Ybad.prog 17 #[.pointer (some ⟨tb, 1, none⟩), .int .i64 (i : Int), .int .u64 k] w fun e w' => e = .returned (.tuple #[]) ∧ Fr tb TX w w' ∧ ∃ tf', (∀ k, k ≠ 5 → k ≠ 6 → tf' k = tf k) ∧ IxA w' tb tf' n := by
  obtain ⟨ids, pos, mb, hx, ha⟩ := h
  obtain ⟨p, hp⟩ := Option.ne_none_iff_exists'.1 (ha i hi)
  have X29 := leave_any tb i p n n mb tf ids pos w hx hp
  have XA : Hid (∀ j, j < n → pos j ≠ none) := ha
  have hn3 := hx.small
  clear hx hp ha
  go_enter Ybad.func17, Ybad.ntmps17
  go_wp2_with (first | (go_at_call 29; refine X29.mono ?_; clear X29; rintro e w2 ⟨rfl, hf2, tf2, ht2, hx2⟩; obtain ⟨kb, kcap, c2, ⟨u, cu⟩, nu, hx3, hf3⟩ := hx2.keyset hi k; have H2 : Hid (Fr tb TJ w w2 ∧ (∀ k, k ≠ 6 → tf2 k = tf k)) := ⟨hf2, ht2⟩; have H3 : Hid (Fr tb TX w2 (w2.setCell ⟨kb, i, none⟩ (.int .u64 k))) := hf3; have X28 := join_any tb i n (n - 1) mb tf2 _ _ _ hx3 (by simp) hi (by omega); clear hf2 ht2 hx2 hx3 hf3) | (go_at_call 28; refine X28.mono ?_; clear X28; rintro e w4 ⟨rfl, hf4, tf4, mb4, ht4, hx4⟩))
  go_end0
  exact ⟨rfl, ((H2.out.1.mono (Nat.le_refl _) (by decide)).trans H3.out).trans (hf4.mono (Nat.le_refl _) (by decide)), tf4, fun k h5 h6 => (ht4 k h5 h6).trans (H2.out.2 k h6), all_again hi XA.out hx4⟩

set_option maxHeartbeats 1000000 in
set_option maxRecDepth 100000 in
theorem set_any (tb i n : Nat) (tf : Nat → Value) (w : World) (h : IxA w tb tf n) (hi : i < n) :
    Calls Ybad.prog 22 #[.pointer (some ⟨tb, 1, none⟩), .int .i64 (i : Int), .agg #[.int .u64 0, .int .u64 0, .pointer none, .int .u8 0, .int .u32 0, .string ⟨#[]⟩, .string ⟨#[]⟩, .string ⟨#[]⟩, .int .u8 0]] w fun e w' => e = .returned (.tuple #[]) ∧ Fr tb TX w w' ∧ ∃ tf', (∀ k, k ≠ 5 → k ≠ 6 → tf' k = tf k) ∧ IxA w' tb tf' n := by
  obtain ⟨ids, pos, mb, hx, ha⟩ := h
  obtain ⟨p, hp⟩ := Option.ne_none_iff_exists'.1 (ha i hi)
  have hn3 := hx.small
  have X29 : Calls Ybad.prog 29 #[.pointer (some ⟨tb, 1, none⟩), .int .i64 (i : Int)] (w.alloc (.cells #[.int .u64 0, .int .u64 0, .pointer none, .int .u8 0, .int .u32 0, .string ⟨#[]⟩, .string ⟨#[]⟩, .string ⟨#[]⟩, .int .u8 0] 92)) fun e w2 => e = .returned (.tuple #[]) ∧
      ∃ tf2 pb pcap, Hid (Fr tb TJ w w2 ∧ (∀ k, k ≠ 6 → tf2 k = tf k) ∧ Ix w2 tb tf2 n (n - 1) (fun k => if k = p then ids (n - 1) else ids k) (fun j => if j = i then none else if j = ids (n - 1) then some p else pos j) mb) ∧
        w2.cell? ⟨tb, 1, none⟩ = some (.slice (some ⟨pb, 0, none⟩) n pcap) ∧ (∀ k, k < 9 → w2.cell? ⟨pb, i * 9 + k, none⟩ = some (zp k) ∧ w2.frozen? ⟨pb, i * 9 + k, none⟩ = false) ∧ (∀ k, k < 9 → w2.cell? ⟨w.heap.size, k, none⟩ = some (zp k)) := by
    have hT : Turn [] w (w.alloc (.cells #[.int .u64 0, .int .u64 0, .pointer none, .int .u8 0, .int .u32 0, .string ⟨#[]⟩, .string ⟨#[]⟩, .string ⟨#[]⟩, .int .u8 0] 92)) := (Turn.refl [] w).alloc _
    refine (leave_any tb i p n n mb tf ids pos _ (hx.turn hT (by simp)) hp).mono ?_
    rintro e w2 ⟨rfl, hf2, tf2, ht2, hx2⟩
    obtain ⟨pb, pcap, P1, hv, htb, hcap, hmax, hR, hF⟩ := hx2.places.pos (by omega)
    have hb := hf2.row (row_new w #[.int .u64 0, .int .u64 0, .pointer none, .int .u8 0, .int .u32 0, .string ⟨#[]⟩, .string ⟨#[]⟩, .string ⟨#[]⟩, .int .u8 0] 92) (by decide)
    refine ⟨rfl, tf2, pb, pcap, ⟨(Fr.ofTurn hT (by simp) (by simp)).trans hf2, ht2, hx2⟩, by rw [hx2.row.cell (by omega), hv], fun k hk => ⟨?_, hR.frozen _⟩, fun k hk => ?_⟩
    · rw [hR.cell (by omega), hF _ (by omega)]
      congr 2
      omega
    · rw [hb.cell (by simpa using hk)]
      match k, hk with
      | 0, _ | 1, _ | 2, _ | 3, _ | 4, _ | 5, _ | 6, _ | 7, _ | 8, _ => rfl
  have XA : Hid (∀ j, j < n → pos j ≠ none) := ha
  have htl : tb < w.heap.size := hx.row.lt
  clear hx hp ha
  go_enter Ybad.func22, Ybad.ntmps22
  go_wp2_with (go_at_call 29; refine X29.mono ?_; clear X29; rintro e w2 ⟨rfl, tf2, pb, pcap, H2, c1, hd, hb⟩)
  have d0 := hd 0 (by omega)
  have d1 := hd 1 (by omega)
  have d2 := hd 2 (by omega)
  have d3 := hd 3 (by omega)
  have d4 := hd 4 (by omega)
  have d5 := hd 5 (by omega)
  have d6 := hd 6 (by omega)
  have d7 := hd 7 (by omega)
  have d8 := hd 8 (by omega)
  have b0 := hb 0 (by omega)
  have b1 := hb 1 (by omega)
  have b2 := hb 2 (by omega)
  have b3 := hb 3 (by omega)
  have b4 := hb 4 (by omega)
  have b5 := hb 5 (by omega)
  have b6 := hb 6 (by omega)
  have b7 := hb 7 (by omega)
  have b8 := hb 8 (by omega)
  simp only [Nat.add_zero, zp] at d0 d1 d2 d3 d4 d5 d6 d7 d8 b0 b1 b2 b3 b4 b5 b6 b7 b8
  clear hd hb
  have XS : Hid ((((((((((w2.setCell ⟨pb, i * 9, none⟩ (.int .u64 0)).setCell ⟨pb, i * 9 + 1, none⟩ (.int .u64 0)).setCell ⟨pb, i * 9 + 2, none⟩ (.pointer none)).setCell ⟨pb, i * 9 + 3, none⟩ (.int .u8 0)).setCell ⟨pb, i * 9 + 4, none⟩ (.int .u32 0)).setCell ⟨pb, i * 9 + 5, none⟩ (.string ⟨#[]⟩)).setCell ⟨pb, i * 9 + 6, none⟩ (.string ⟨#[]⟩)).setCell ⟨pb, i * 9 + 7, none⟩ (.string ⟨#[]⟩)).setCell ⟨pb, i * 9 + 8, none⟩ (.int .u8 0)) = w2) := by
    show _ = w2
    rw [setCell_id d0.1, setCell_id d1.1, setCell_id d2.1, setCell_id d3.1, setCell_id d4.1, setCell_id d5.1, setCell_id d6.1, setCell_id d7.1, setCell_id d8.1]
  go_region
  refine q_world ?_
  intro W5 hW5
  rw [XS.out] at hW5
  subst hW5
  have hx5 := H2.out.2.2.turn ((Turn.refl [] w2).drew) (by simp)
  have X28 := join_any tb i n (n - 1) mb tf2 _ _ _ hx5 (by simp) hi (by omega)
  clear hx5 d0 d1 d2 d3 d4 d5 d6 d7 d8 b0 b1 b2 b3 b4 b5 b6 b7 b8
  go_wp2_with (go_at_call 28; refine X28.mono ?_; clear X28; rintro e w4 ⟨rfl, hf4, tf4, mb4, ht4, hx4⟩)
  go_end0
  exact ⟨rfl, ((H2.out.1.mono (Nat.le_refl _) (by decide)).drew).trans (hf4.mono (Nat.le_refl _) (by decide)), tf4, fun k h5 h6 => (ht4 k h5 h6).trans (H2.out.2.1 k h6), all_again hi XA.out hx4⟩

end Go.Proofs.YbulkbdskDoor
