import Derived.Test.YbulkbdtmOrLaw
import Derived.Lib.Mul64
import Derived.Laws.Externs
namespace Go.Proofs.Ybulkbdtm
open Go.RowKit

theorem maskLo (a : Nat) (ha : a < 18446744073709551616) : bits .and .u64 (a : Int) 4294967295 = ((a % 4294967296 : Nat) : Int) := by
  have h := bits_and_u64_nat a 4294967295 ha (by omega)
  have e : a &&& 4294967295 = a % 4294967296 := Nat.and_two_pow_sub_one_eq_mod a 32
  rw [e] at h
  exact h
theorem divHi (a : Nat) : (a : Int) / 4294967296 = ((a / 4294967296 : Nat) : Int) := by omega
theorem mulUp (a b : Nat) : (a : Int) * (b : Int) = ((a * b : Nat) : Int) := (Int.natCast_mul a b).symm
theorem addUp (a b : Nat) : (a : Int) + (b : Int) = ((a + b : Nat) : Int) := (Int.natCast_add a b).symm

set_option maxHeartbeats 1000000 in
/-- math/bits.Mul64, walked as the library's text stands in this dump. -/
theorem mul64_any (x y : Nat) (hx : x < 18446744073709551616) (hy : y < 18446744073709551616) (w : World) :
    Calls Yba.prog 16 #[.int .u64 x, .int .u64 y] w fun e w' => e = .returned (.tuple #[.int .u64 ((x * y / 18446744073709551616 : Nat) : Int), .int .u64 ((x * y % 18446744073709551616 : Nat) : Int)]) ∧ w' = w := by
  obtain ⟨bd, bt, bw, hhi⟩ := Lib.mul64_hi x y hx hy
  have ba := Lib.half_mul_le (a := x / 4294967296) (b := y / 4294967296) (by omega) (by omega)
  have bb := Lib.half_mul_le (a := x / 4294967296) (b := y % 4294967296) (by omega) (by omega)
  have bc := Lib.half_mul_le (a := x % 4294967296) (b := y / 4294967296) (by omega) (by omega)
  have ba' : x / 4294967296 * (y / 4294967296) < 18446744073709551616 := by omega
  have bb' : x / 4294967296 * (y % 4294967296) < 18446744073709551616 := by omega
  have bc' : x % 4294967296 * (y / 4294967296) < 18446744073709551616 := by omega
  have bh1 : x / 4294967296 * (y / 4294967296) + (x / 4294967296 * (y % 4294967296) + x % 4294967296 * (y % 4294967296) / 4294967296) / 4294967296 < 18446744073709551616 := by omega
  have bh : x / 4294967296 * (y / 4294967296) + (x / 4294967296 * (y % 4294967296) + x % 4294967296 * (y % 4294967296) / 4294967296) / 4294967296 + ((x / 4294967296 * (y % 4294967296) + x % 4294967296 * (y % 4294967296) / 4294967296) % 4294967296 + x % 4294967296 * (y / 4294967296)) / 4294967296 < 18446744073709551616 := by omega
  go_enter Yba.func16, Yba.ntmps16
  go_wp2
  simp only [maskLo x hx, maskLo y hy, divHi, mulUp, addUp, wrapLt _ bd, wrapLt _ bb', wrapLt _ bt, maskLo _ bt, wrapLt _ bc', wrapLt _ bw, wrapLt _ ba', wrapLt _ bh1, wrapLt _ bh, wrapNat (x * y)]
  rw [hhi]
  go_ret2
  exact ⟨rfl, rfl⟩

/-- math/bits.Add64 at carry 0: the model's own entry. -/
theorem add64_0 (x y : Nat) (w : World) : (callFunc 17 #[.int .u64 x, .int .u64 y, .int .u64 0]).run Yba.prog w =
    .ok (.value (.tuple #[.int .u64 (((x + y) % 18446744073709551616 : Nat) : Int), .int .u64 (((x + y) / 18446744073709551616 : Nat) : Int)])) w := by
  rw [run_callFunc_extern Yba.func17 (by kernel_rfl) (by kernel_rfl) (by kernel_rfl) (e := add64Entry) (by kernel_rfl), run_add64 x y 0 (by omega) (by omega) (by omega) (by omega)]
  simp only [Result.andThen]
  congr 5 <;> omega

/-- What zzs2742aatleast answers, out of its three words. -/
def atl (top h2 h1 g : Nat) : Bool := decide (g ≤ top * 18446744073709551616 + h2 + h1)
theorem atl_top {top h2 h1 g : Nat} (h : top ≠ 0) (hg : g ≤ 1024) : atl top h2 h1 g = true := by unfold atl; rw [decide_eq_true_iff]; omega
theorem atl_carry {h2 h1 g : Nat} (h : (h2 + h1) / 18446744073709551616 ≠ 0) (hg : g ≤ 1024) : atl 0 h2 h1 g = true := by unfold atl; rw [decide_eq_true_iff]; omega

set_option maxHeartbeats 1000000 in
theorem atleast_core (low d G g mhi mlo : Nat) (w : World) (hlow : low < 18446744073709551616) (hd : d ≤ 64) (hG : G ≤ 1024) (hg : g ≤ 1024) (hmh : mhi < 18446744073709551616) (hml : mlo < 18446744073709551616)
    (e64 : d = 64 → mhi = low ∧ mlo = 0) (eh : d < 64 → (low : Int) / 2 ^ (64 - d) = (mhi : Int)) (el : d < 64 → IntKind.u64.wrap ((low : Int) * 2 ^ d) = (mlo : Int)) :
    Calls Yba.prog 9 #[.int .u64 low, .int .i64 d, .int .u64 G, .int .u64 g] w fun e w' => e = .returned (.bool (atl (mhi * G / 18446744073709551616) (mhi * G % 18446744073709551616) (mlo * G / 18446744073709551616) g)) ∧ w' = w := by
  have m1 := mul64_any mlo G hml (by omega) w
  have m2 := mul64_any mhi G hmh (by omega) w
  have b1 : mlo * G / 18446744073709551616 < 18446744073709551616 := by
    rw [Nat.div_lt_iff_lt_mul (by omega)]
    exact Nat.lt_of_lt_of_le (Nat.mul_lt_mul_of_lt_of_le hml hG (by omega)) (by omega)
  have b2 : mhi * G % 18446744073709551616 < 18446744073709551616 := Nat.mod_lt _ (by omega)
  generalize mhi * G / 18446744073709551616 = top at *
  generalize mhi * G % 18446744073709551616 = h2 at *
  generalize mlo * G / 18446744073709551616 = h1 at *
  generalize mlo * G % 18446744073709551616 = h0 at *
  have a1 := add64_0 h2 h1
  have M1 : Hid (Calls Yba.prog 16 #[.int .u64 mlo, .int .u64 G] w fun e w' => e = .returned (.tuple #[.int .u64 (h1 : Int), .int .u64 (h0 : Int)]) ∧ w' = w) := m1
  have M2 : Hid (Calls Yba.prog 16 #[.int .u64 mhi, .int .u64 G] w fun e w' => e = .returned (.tuple #[.int .u64 (top : Int), .int .u64 (h2 : Int)]) ∧ w' = w) := m2
  clear m1 m2
  by_cases hd64 : d = 64
  · obtain ⟨rfl, rfl⟩ := e64 hd64
    subst hd64
    have M1' : Hid (Calls Yba.prog 16 #[.int .u64 0, .int .u64 G] w fun e w' => e = .returned (.tuple #[.int .u64 (h1 : Int), .int .u64 (h0 : Int)]) ∧ w' = w) := M1
    clear e64 eh el M1
    by_cases ht : top = 0
    · subst ht
      by_cases hc : (h2 + h1) / 18446744073709551616 = 0
      · have eA : Hid (atl 0 h2 h1 g = decide (g ≤ h2 + h1)) := by show atl 0 h2 h1 g = _; unfold atl; simp
        have eS : (h2 + h1) % 18446744073709551616 = h2 + h1 := by omega
        rw [eS, hc] at a1
        clear hc eS
        go_enter Yba.func9, Yba.ntmps9
        go_wp2_with fail
        refine M1'.out.mono ?_
        rintro e w' ⟨rfl, rfl⟩
        go_wp2_with fail
        refine M2.out.mono ?_
        rintro e w' ⟨rfl, rfl⟩
        go_wp2
        go_ret
        exact ⟨by rw [eA.out]; congr 2; simp; omega, rfl⟩
      · have eA : Hid (atl 0 h2 h1 g = true) := atl_carry hc hg
        obtain ⟨c, hcc⟩ : ∃ c, c = (h2 + h1) / 18446744073709551616 := ⟨_, rfl⟩
        obtain ⟨sm, hsm⟩ : ∃ sm, sm = (h2 + h1) % 18446744073709551616 := ⟨_, rfl⟩
        rw [← hcc] at hc
        rw [← hcc, ← hsm] at a1
        clear hcc hsm
        have hb : ((c : Int) != 0) = true := by rw [bne_iff_ne]; omega
        go_enter Yba.func9, Yba.ntmps9
        go_wp2_with fail
        refine M1'.out.mono ?_
        rintro e w' ⟨rfl, rfl⟩
        go_wp2_with fail
        refine M2.out.mono ?_
        rintro e w' ⟨rfl, rfl⟩
        go_wp2
        go_ret
        exact ⟨by rw [eA.out]; rfl, rfl⟩
    · have eA : Hid (atl top h2 h1 g = true) := atl_top ht hg
      have hb : ((top : Int) != 0) = true := by rw [bne_iff_ne]; omega
      go_enter Yba.func9, Yba.ntmps9
      go_wp2_with fail
      refine M1'.out.mono ?_
      rintro e w' ⟨rfl, rfl⟩
      go_wp2_with fail
      refine M2.out.mono ?_
      rintro e w' ⟨rfl, rfl⟩
      go_wp2
      go_ret
      exact ⟨by rw [eA.out]; rfl, rfl⟩
  · have hdl : d < 64 := by omega
    have eh' := eh hdl
    have el' := el hdl
    have hdI : (d : Int) < 64 := by omega
    clear e64 eh el
    by_cases ht : top = 0
    · subst ht
      by_cases hc : (h2 + h1) / 18446744073709551616 = 0
      · have eA : Hid (atl 0 h2 h1 g = decide (g ≤ h2 + h1)) := by show atl 0 h2 h1 g = _; unfold atl; simp
        have eS : (h2 + h1) % 18446744073709551616 = h2 + h1 := by omega
        rw [eS, hc] at a1
        clear hc eS
        go_enter Yba.func9, Yba.ntmps9
        go_wp2_with fail
        refine M1.out.mono ?_
        rintro e w' ⟨rfl, rfl⟩
        go_wp2_with fail
        refine M2.out.mono ?_
        rintro e w' ⟨rfl, rfl⟩
        go_wp2
        go_ret
        exact ⟨by rw [eA.out]; congr 2; simp; omega, rfl⟩
      · have eA : Hid (atl 0 h2 h1 g = true) := atl_carry hc hg
        obtain ⟨c, hcc⟩ : ∃ c, c = (h2 + h1) / 18446744073709551616 := ⟨_, rfl⟩
        obtain ⟨sm, hsm⟩ : ∃ sm, sm = (h2 + h1) % 18446744073709551616 := ⟨_, rfl⟩
        rw [← hcc] at hc
        rw [← hcc, ← hsm] at a1
        clear hcc hsm
        have hb : ((c : Int) != 0) = true := by rw [bne_iff_ne]; omega
        go_enter Yba.func9, Yba.ntmps9
        go_wp2_with fail
        refine M1.out.mono ?_
        rintro e w' ⟨rfl, rfl⟩
        go_wp2_with fail
        refine M2.out.mono ?_
        rintro e w' ⟨rfl, rfl⟩
        go_wp2
        go_ret
        exact ⟨by rw [eA.out]; rfl, rfl⟩
    · have eA : Hid (atl top h2 h1 g = true) := atl_top ht hg
      have hb : ((top : Int) != 0) = true := by rw [bne_iff_ne]; omega
      go_enter Yba.func9, Yba.ntmps9
      go_wp2_with fail
      refine M1.out.mono ?_
      rintro e w' ⟨rfl, rfl⟩
      go_wp2_with fail
      refine M2.out.mono ?_
      rintro e w' ⟨rfl, rfl⟩
      go_wp2
      go_ret
      exact ⟨by rw [eA.out]; rfl, rfl⟩
end Go.Proofs.Ybulkbdtm
