import Derived.Test.YbulkbdskRows
import Derived.WalkKit
import Derived.WalkSpells
import Derived.WalkLawsBesides
namespace Go.Proofs.Ybulkbdsk
open Go.RowKit

theorem Yba.info29 : (Yba.prog.info? 29).map (fun i => (i.zero, i.size, i.bytes)) = some (some (.agg #[.int .u64 0, .int .i64 0]), 2, 16) := by kernel_rfl
theorem Yba.info26 : (Yba.prog.info? 26).map (fun i => (i.zero, i.size, i.bytes)) = some (some (.slice none 0 0), 1, 24) := by kernel_rfl
theorem Yba.info3 : (Yba.prog.info? 3).map (fun i => (i.zero, i.size, i.bytes)) = some (some (.int .i64 0), 1, 8) := by kernel_rfl

set_option maxHeartbeats 400000 in
theorem clone_any (ad : Addr) (n c : Nat) (cs : List Value) (w : World) (hl : cs.length = n * 2) (hcs : ∀ j u, cs[j]? = some u → w.cell? (ad.add j) = some u) (h1 : ∀ u ∈ cs, u.oneCell' = true) (hn : n ≤ 1000) :
    Calls Yba.prog 6 #[.slice (some ad) n c] w fun e w' => ∃ g cap, e = .returned (.slice (some ⟨g, 0, none⟩) n cap) ∧ w'.ownsRow w.heap.size 29 2 (.slice (some ⟨g, 0, none⟩) n cap) n cs ∧ w.grownBy w' none := by
  obtain ⟨i0, hi, hz0, hz1, hz2⟩ := info_parts Yba.info29
  have q26 : ∀ (w : World) (a : Option Addr) (n c n' c' : Nat), (binOp .eql 26 (.slice a n c) (.slice none n' c')).run Yba.prog w = .ok (.bool a.isNone) w := fun w a n c n' c' => Lib.run_eql_slice_nil w _ _ a n c n' c' Yba.underlying26
  have A : Hid (∀ j u, cs[j]? = some u → w.cell? (ad.add j) = some u) := hcs
  have A1 : Hid (∀ u ∈ cs, u.oneCell' = true) := h1
  clear hcs h1
  go_enter Yba.func6, Yba.ntmps6
  go_wp2_with (at_builtin; refine wpList_append_own _ rfl _ _ 26 rfl w.heap.size 29 i0 (.agg #[.int .u64 0, .int .i64 0]) 2 16 Yba.underlying26 hi hz0 hz1 hz2 rfl (by decide) _ _ _ rfl (World.ownsRow_made w #[] 0 (Nat.le_refl _) (Nat.zero_le _) rfl) ad n c cs rfl hl ?qc2 ?qc3 ?qc4 ?qc5 ?qc6 ?_)
  case qc2 => exact fun j u hj => Lib.cell?_alloc_some _ (A.out j u hj)
  case qc3 => exact A1.out
  case qc4 => unfold maxLen; omega
  case qc5 => omega
  case qc6 => simp
  intro v' w1 hown hgrow hnil
  obtain ⟨g, cap, rfl⟩ : ∃ g cap, v' = .slice (some ⟨g, 0, none⟩) n cap := by
    rcases hown.2 with ⟨h, _⟩ | ⟨g, cap, _, h, _⟩
    · simp [hnil] at h
    · exact ⟨g, cap, by simpa using h⟩
  go_wp2
  go_ret
  refine ⟨g, cap, rfl, by simpa using hown, hgrow.os, hgrow.tape, hgrow.output, ?_, ?_⟩
  · have := hgrow.size
    simp at this
    omega
  · intro k hk _
    rw [hgrow.block k (by simp; omega) (by simp [Value.ownBlock]; omega), Below.heap_alloc _ _ _ hk]
end Go.Proofs.Ybulkbdsk
