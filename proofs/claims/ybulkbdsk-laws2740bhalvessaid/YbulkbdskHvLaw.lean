import Derived.Test.YbulkbdskHvPost
import Derived.LoopTactic
import Derived.Deep.QuietTactic
import Derived.BigQuiet
import Derived.Deep.Cut
import Derived.Deep.CutRange
import Derived.Deep.CutBlock
namespace Go.Proofs.Ybulkbdsk
open Go.RowKit

set_option maxHeartbeats 1000000 in
set_option maxRecDepth 100000 in
theorem law_core (a0 : Option Addr) (len0 cap0 : Nat) (ls : Nat → Nat) (a1 a2 : Int) (w : World) (hlen : len0 ≤ 256) (hls : ∀ i, ls i ≤ 39)
    (hlast : ls len0 = (a1 % 37).toNat) (wa1 : 0 ≤ a1) (wa2 : a1 < 18446744073709551616) (b off : Nat) (zs : Nat → Int)
    (hidx : ∀ (k : Nat) (W : World), k < len0 → (Instr.indexAt 22 (.slice a0 len0 cap0) (.int .i64 k)).run Yba.prog W = .ok (.pointer (some ⟨b, off + k, none⟩)) W)
    (hcell : ∀ k, k < len0 → w.cell? ⟨b, off + k, none⟩ = some (.int .u8 (zs k))) (hzs : ∀ k, k < len0 → 0 ≤ zs k ∧ zs k ≤ 255 ∧ ls k = (zs k % 40).toNat) :
    Calls Yba.prog 3 #[.slice a0 len0 cap0, .int .u64 a1, .int .i64 a2] w fun e w' => e = .returned (.bool true) ∧ Below w.heap.size w w' := by
  have hk0 : (len0 : Int) ≤ 256 := by omega
  have hm24 := make24 (len0 + 1) ((len0 : Int) + 1) (by omega) (by omega)
  have hm25 := make25 (len0 + 1) ((len0 : Int) + 1) (by omega) (by omega)
  have hd0 : decide ((256 : Int) < (len0 : Int)) = false := decide_eq_false (by omega)
  go_enter Yba.func3, Yba.ntmps3
  go_upto_block 0 with fail
  go_cut [10] from 24 (fun c wc => c = .int .i64 (pre ls (len0 + 1)) ∧ Inv w.heap.size (len0 + 1) ls w (len0 + 1) wc)
  case rest =>
    obtain ⟨rfl, hinv⟩ := hcut
    clear hm24 hm25 hd0 hidx hcell hzs hlast
    obtain ⟨bi, hbi⟩ : ∃ bi : Nat, a1 % ((len0 : Int) + 1) = (bi : Int) := ⟨(a1 % ((len0 : Int) + 1)).toNat, by rw [Int.toNat_of_nonneg (Int.emod_nonneg _ (by omega))]⟩
    have hbl : bi < len0 + 1 := by have := Int.emod_lt_of_pos a1 (show (0 : Int) < (len0 : Int) + 1 by omega); omega
    have hsz := hinv.size
    have cb := hinv.blks.cell hbl
    simp only [blksF, if_pos hbl] at cb
    have HI : Hid (Inv w.heap.size (len0 + 1) ls w (len0 + 1) wc) := hinv
    clear hinv
    go_wp2_with fail
    refine (split_any _ (w.heap.size + 1) (w.heap.size + 2 + bi) (len0 + 1) bi (ls bi) (blksF w.heap.size ls (len0 + 1)) (pairF (pre ls bi)) a2 _ hbl (by omega) (by have := hls bi; omega) ?_ ?_ ?_ ?_ ?_ ?_).mono ?_
    · have h := World.rowIs_alloc wc #[.slice (some ⟨w.heap.size + 1, 0, none⟩) (len0 + 1) (len0 + 1), .int .i64 a2] 32 (ringF (.slice (some ⟨w.heap.size + 1, 0, none⟩) (len0 + 1) (len0 + 1)) a2) (by
        intro i hi
        match i, hi with
        | 0, _ => rfl
        | 1, _ => rfl)
      rw [hsz] at h
      exact h
    · exact HI.out.blks.alloc _
    · simp only [blksF, if_pos hbl]
    · exact (HI.out.rows bi hbl).alloc _
    · exact fun j _ => blksF_one _ _ _ _
    · exact fun j _ => pairF_one _ _
    rintro e w2 ⟨rfl, hS⟩
    obtain ⟨G, cap, bk, cp, hP⟩ := Post.of rfl hbl HI.out hS
    have r0 := hP.ring0
    have r1 := hP.ring1
    have HP : Hid (Post w.heap.size (len0 + 1) bi ls a2 w G cap bk cp w2) := hP
    clear HI hS hP cb hsz
    go_upto_block 4 with fail
    go_cut [18] from 24 (fun _ wc => ∃ n, wc = w2.drewN n)
    case first =>
      go_wp2_with fail
      go_loopw [18] (fun i wr => ∃ k n : Nat, k ≤ len0 + 1 + 1 ∧ i = .int .i64 k ∧ wr = w2.drewN n) (fun i _ => len0 + 1 + 1 - (intOf i).toNat)
      case atStart => exact ⟨0, 0, Nat.zero_le _, rfl, rfl⟩
      case round =>
        obtain ⟨k, n, hk, rfl, rfl⟩ := hrel
        by_cases hlt : k < len0 + 1 + 1
        · have hrow := HP.out.row k hlt
          have hcell := fun i hi => HP.out.lens i hi
          have hlb := hls bi
          by_cases e1 : k < bi
          · rw [nl_lt e1] at hrow
            have hl := hcell k (by omega)
            clear hcell
            go_wp2
            go_roundw
            case rel => exact ⟨k + 1, n, by omega, by go_num, rfl⟩
            case measure => simp [intOf]; omega
          · by_cases e2 : k = bi
            · subst e2
              rw [nl_at] at hrow
              have hl := hcell k (by omega)
              have hbe : ((k : Int) == (k : Int)) = true := by simp
              clear hcell
              go_wp2
              go_roundw
              case rel => exact ⟨k + 1, n, by omega, by go_num, rfl⟩
              case measure => simp [intOf]; omega
            · by_cases e3 : k = bi + 1
              · subst e3
                rw [nl_new] at hrow
                have hl := hcell bi (by omega)
                have hbe : (((bi : Int) + 1) == (bi : Int)) = false := beq_eq_false_iff_ne.2 (by omega)
                clear hcell
                go_wp2
                go_quiet (fail)
                go_wp2
                go_roundw
                case rel => exact ⟨bi + 1 + 1, _, by omega, by go_num, rfl⟩
                case measure => simp [intOf]; omega
              · rw [nl_gt (by omega)] at hrow
                obtain ⟨j, rfl⟩ : ∃ j, k = j + 1 := ⟨k - 1, by omega⟩
                have hl := hcell j (by omega)
                clear hcell
                go_wp2
                go_roundw
                case rel => exact ⟨j + 1 + 1, n, by omega, by go_num, rfl⟩
                case measure => simp [intOf]; omega
        · obtain rfl : k = len0 + 1 + 1 := by omega
          go_wp2
          go_meet
          case rel => exact ⟨n, rfl⟩
    case rest =>
      obtain ⟨n, rfl⟩ := hcut
      have hpl := pre_le (nl ls bi) (nl_le ls hls bi)
      go_upto_block 7 with fail
      go_cut [20] from 24 (fun c wc => c = .int .i64 (pre (nl ls bi) (len0 + 1 + 1)) ∧ wc = w2.drewN n)
      case first =>
        go_wp2_with fail
        go_loopw [20, 21] (fun c i wr => ∃ k : Nat, k ≤ len0 + 1 + 1 ∧ i = .int .i64 k ∧ c = .int .i64 (pre (nl ls bi) k) ∧ wr = w2.drewN n) (fun _ i _ => len0 + 1 + 1 - (intOf i).toNat)
        case atStart => exact ⟨0, Nat.zero_le _, rfl, rfl, rfl⟩
        case round =>
          obtain ⟨k, hk, rfl, rfl, rfl⟩ := hrel
          by_cases hlt : k < len0 + 1 + 1
          · have hrow := HP.out.row k hlt
            have hpk := hpl k
            have hnk := nl_le ls hls bi k
            go_wp2_with fail
            go_loopw [20, 23] (fun c j wr => ∃ t : Nat, t ≤ nl ls bi k ∧ j = .int .i64 t ∧ c = .int .i64 ((pre (nl ls bi) k + t : Nat) : Int) ∧ wr = w2.drewN n) (fun _ j _ => nl ls bi k - (intOf j).toNat)
            case atStart => exact ⟨0, Nat.zero_le _, rfl, rfl, rfl⟩
            case round =>
              obtain ⟨t, ht, rfl, rfl, rfl⟩ := hrel
              by_cases htl : t < nl ls bi k
              · have c0 := HP.out.pairs k hlt (t * 2) (by omega)
                have c1 := HP.out.pairs k hlt (t * 2 + 1) (by omega)
                rw [pairF_key] at c0
                rw [pairF_idx] at c1
                go_wp2
                go_roundw
                case rel => exact ⟨t + 1, by omega, by go_num, by go_num, by first | rfl | trivial⟩
                case measure => simp [intOf]; omega
              · obtain rfl : t = nl ls bi k := by omega
                go_wp2
                go_roundw
                case rel => exact ⟨k + 1, by omega, by go_num, by rw [pre_succ], by first | rfl | trivial⟩
                case measure => simp [intOf]; omega
          · obtain rfl : k = len0 + 1 + 1 := by omega
            go_wp2
            go_meet
            case rel => exact ⟨rfl, rfl⟩
      case rest =>
        obtain ⟨rfl, rfl⟩ := hcut
        have hpe : pre (nl ls bi) (len0 + 1 + 1) = pre ls (len0 + 1) := by
          obtain ⟨d, hd⟩ : ∃ d, len0 = bi + d := ⟨len0 - bi, by omega⟩
          have := pre_nl_gt ls bi d
          rwa [show bi + 2 + d = len0 + 1 + 1 by omega, show bi + 1 + d = len0 + 1 by omega] at this
        have hrow := HP.out.row (bi + 1) (by omega)
        rw [nl_new] at hrow
        have hl := HP.out.lens bi hbl
        have hlb := hls bi
        have hpb := pre_le ls hls bi
        have hbel := HP.out.below
        have hap := HP.out.apart
        have hfree := HP.out.free 1
        have hown := HP.out.own
        by_cases hz : ls bi = 0
        · have hd1 : decide ((0 : Int) < ((ls bi - ls bi / 2 : Nat) : Int)) = false := decide_eq_false (by omega)
          have HB : Hid (Below w.heap.size w w2) := hbel
          have hz' : ls bi ≤ 0 := by omega
          clear hz hbel hap hfree hown
          go_wp2
          go_ret
          exact ⟨rfl, below_drewN HB.out n⟩
        · have c0 := HP.out.pairs (bi + 1) (by omega) 1 (by rw [nl_new]; omega)
          have c1 := HP.out.orig (ls bi / 2 * 2 + 1) (by omega)
          rw [pairF_idx] at c1
          rw [show (1 : Nat) = 0 * 2 + 1 from rfl, pairF_idx] at c0
          have HB : Hid (Below w.heap.size w w2) := hbel
          obtain ⟨ap1, ap2⟩ := hap
          have hz' : 0 < ls bi := by omega
          clear hz hbel
          go_wp2
          go_ret
          exact ⟨rfl, below_drewN (HB.out.setCell (by exact hown) _) n⟩
  case first =>
    clear hm24 hm25
    go_wp2_with fail
    go_loopw [10, 11] (fun c i wr => ∃ k : Nat, k ≤ len0 + 1 ∧ i = .int .i64 k ∧ c = .int .i64 (pre ls k) ∧ Inv w.heap.size (len0 + 1) ls w k wr) (fun _ i _ => len0 + 1 - (intOf i).toNat)
    case atStart => exact ⟨0, Nat.zero_le _, rfl, rfl, Inv.start _ _ _⟩
    case round =>
      obtain ⟨k, hk, rfl, rfl, hinv⟩ := hrel
      by_cases hlt : k < len0 + 1
      · have HI : Hid (Inv w.heap.size (len0 + 1) ls w k wr) := hinv
        have hb := hinv.below
        have hsz := hinv.size
        have hlk := hls k
        clear hinv
        have hpre := pre_le ls hls k
        go_upto_if 45 with fail
        go_cut [12] from 34 to 76 (fun l wc => l = .int .i64 (ls k) ∧ wc = wr)
        case first =>
          by_cases hkl : k < len0
          · have hix := fun W => hidx k W hkl
            obtain ⟨z1, z2, z3⟩ := hzs k hkl
            have hcw := block_lt_of_cell (hcell k hkl)
            have hck := (hb.cell (by exact hcw)).trans (hcell k hkl)
            have Z3 : Hid (ls k = (zs k % 40).toNat) := z3
            clear z3 hidx hcell hzs hb
            go_wp2
            go_meet
            case rel => exact ⟨by rw [Z3.out]; go_num, rfl⟩
          · have Z3 : Hid (ls k = (a1 % 37).toNat) := by
              show ls k = _
              rw [← hlast, show k = len0 by omega]
            clear hidx hcell hzs hb hlast
            go_wp2
            go_meet
            case rel => exact ⟨by rw [Z3.out]; go_num, rfl⟩
        case rest =>
          obtain ⟨rfl, rfl⟩ := hcut
          have hmk := make26 (ls k) (ls k) rfl (by omega)
          clear hidx hcell hzs hb hlast
          go_wp2_with fail
          go_loopw [10, 14] (fun c j wi => ∃ t : Nat, t ≤ ls k ∧ j = .int .i64 t ∧ c = .int .i64 ((pre ls k + t : Nat) : Int) ∧ InvIn w.heap.size (len0 + 1) ls w k t wi) (fun _ j _ => ls k - (intOf j).toNat)
          case atStart => exact ⟨0, Nat.zero_le _, rfl, rfl, HI.out.enter⟩
          case round =>
            obtain ⟨t, ht, rfl, rfl, hin⟩ := hrel
            obtain ⟨f, hf, _⟩ := hin.row
            have HN : Hid (InvIn w.heap.size (len0 + 1) ls w k t wr) := hin
            clear HI hmk
            by_cases htl : t < ls k
            · have c0 := hf.cell (i := t * 2) (by omega)
              have c1 := hf.cell (i := t * 2 + 1) (by omega)
              have g0 := hf.frozen (t * 2)
              have g1 := hf.frozen (t * 2 + 1)
              clear hin hf
              go_wp2
              go_roundw
              case rel => exact ⟨t + 1, by omega, by go_num, by go_num, by simpa using HN.out.step⟩
              case measure => simp [intOf]; omega
            · obtain rfl : t = ls k := by omega
              have c0 := hin.lens.cell hlt
              have c1 := hin.blks.cell hlt
              have g0 := hin.lens.frozen k
              have g1 := hin.blks.frozen k
              clear hin hf
              go_wp2
              go_roundw
              case rel => exact ⟨k + 1, by omega, by go_num, by rw [pre_succ], HN.out.leave⟩
              case measure => simp [intOf]; omega
      · obtain rfl : k = len0 + 1 := by omega
        have HI : Hid (Inv w.heap.size (len0 + 1) ls w (len0 + 1) wr) := hinv
        clear hinv
        go_wp2
        go_meet
        case rel => exact ⟨rfl, HI.out⟩
end Go.Proofs.Ybulkbdsk
