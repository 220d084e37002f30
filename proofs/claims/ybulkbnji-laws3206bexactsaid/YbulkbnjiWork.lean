/-
  The callees of 'stacks.LawS3206BExact', each by a contract of its own: zzs3206bnat (4), timesUpTo (5), math/bits.Mul64 (6).
-/
import Derived.Test.YbulkbnjiRows
import Derived.WalkKit
import Derived.Lib.Mul64
import Derived.Laws.Bits64b
namespace Go.Proofs.Ybulkbnji
set_option linter.unusedVariables false
open Go.RowKit Go.Lib

def nat63 (x : Int) : Int := if x < 0 then -(x + 1) else x

theorem nat63_bd (x : Int) (h1 : -9223372036854775808 ≤ x) (h2 : x ≤ 9223372036854775807) : 0 ≤ nat63 x ∧ nat63 x ≤ 9223372036854775807 := by
  unfold nat63; split <;> omega

theorem ret_int {k : IntKind} {a b : Int} (h : a = b) : Ending.returned (.int k a) = .returned (.int k b) := by rw [h]

theorem nat_any (x : Int) (w : World) (h1 : -9223372036854775808 ≤ x) (h2 : x ≤ 9223372036854775807) :
    Calls Yba.prog 4 #[.int .i64 x] w fun e w' => e = .returned (.int .i64 (nat63 x)) ∧ w' = w := by
  by_cases hx : x < 0
  · go_enter Yba.func4, Yba.ntmps4
    go_wp2
    go_ret
    exact ⟨ret_int (by unfold nat63; rw [if_pos hx]; try omega), rfl⟩
  · go_enter Yba.func4, Yba.ntmps4
    go_wp2
    go_ret
    exact ⟨ret_int (by unfold nat63; rw [if_neg (by omega)]), rfl⟩

theorem times_le (a n m : Int) (w : World) (ha : 0 ≤ a) (hn : 0 ≤ n) (hm : 0 ≤ m) (hm2 : m ≤ 9223372036854775806) (ha2 : a ≤ 9223372036854775807) (hn2 : n ≤ 9223372036854775807) (h : a * n ≤ m) :
    Calls Yba.prog 5 #[.int .i64 a, .int .i64 n, .int .i64 m] w fun e w' => e = .returned (.int .i64 (a * n)) ∧ w' = w := by
  have hp : 0 ≤ a * n := Int.mul_nonneg ha hn
  by_cases h0 : 0 < n
  · have hd : a ≤ m / n := (Int.le_ediv_iff_mul_le h0).2 h
    go_enter Yba.func5, Yba.ntmps5
    go_wp2
    go_ret
    exact ⟨rfl, rfl⟩
  · obtain rfl : n = 0 := by omega
    go_enter Yba.func5, Yba.ntmps5
    go_wp2
    go_ret
    exact ⟨ret_int (by simp), rfl⟩

theorem times_gt (a n m : Int) (w : World) (ha : 0 ≤ a) (hn : 0 ≤ n) (hm : 0 ≤ m) (hm2 : m ≤ 9223372036854775806) (ha2 : a ≤ 9223372036854775807) (hn2 : n ≤ 9223372036854775807) (h : m < a * n) :
    Calls Yba.prog 5 #[.int .i64 a, .int .i64 n, .int .i64 m] w fun e w' => e = .returned (.int .i64 (m + 1)) ∧ w' = w := by
  have h0 : 0 < n := by
    by_cases h0 : 0 < n
    · exact h0
    · obtain rfl : n = 0 := by omega
      simp at h; omega
  have hd : m / n < a := by
    have := (Int.le_ediv_iff_mul_le h0 (a := a) (b := m))
    omega
  go_enter Yba.func5, Yba.ntmps5
  go_wp2
  go_ret
  exact ⟨rfl, rfl⟩

theorem maskN (a : Nat) (ha : a < 18446744073709551616) : bits .and .u64 (a : Int) 4294967295 = ((a % 4294967296 : Nat) : Int) := by
  have h := bits_and_u64_nat a 4294967295 ha (by omega)
  have e : a &&& 4294967295 = a % 4294967296 := Nat.and_two_pow_sub_one_eq_mod a 32
  rw [e] at h
  exact h
theorem divN (a : Nat) : (a : Int) / 4294967296 = ((a / 4294967296 : Nat) : Int) := by omega
theorem mulN (a b : Nat) : (a : Int) * (b : Int) = ((a * b : Nat) : Int) := (Int.natCast_mul a b).symm
theorem addN (a b : Nat) : (a : Int) + (b : Int) = ((a + b : Nat) : Int) := (Int.natCast_add a b).symm
theorem wrapN (a : Nat) (ha : a < 18446744073709551616) : IntKind.u64.wrap (a : Int) = (a : Int) := by rw [IntKind.wrap_u64]; omega
theorem wrapM (a : Nat) : IntKind.u64.wrap (a : Int) = ((a % 18446744073709551616 : Nat) : Int) := by rw [IntKind.wrap_u64]; omega

set_option maxHeartbeats 1000000 in
theorem mul64N (x y : Nat) (hx : x < 18446744073709551616) (hy : y < 18446744073709551616) (w : World) :
    Calls Yba.prog 6 #[.int .u64 x, .int .u64 y] w fun e w' => e = .returned (.tuple #[.int .u64 ((x * y / 18446744073709551616 : Nat) : Int), .int .u64 ((x * y % 18446744073709551616 : Nat) : Int)]) ∧ w' = w := by
  obtain ⟨bd, bt, bw, hhi⟩ := Lib.mul64_hi x y hx hy
  have ba := Lib.half_mul_le (a := x / 4294967296) (b := y / 4294967296) (by omega) (by omega)
  have bb := Lib.half_mul_le (a := x / 4294967296) (b := y % 4294967296) (by omega) (by omega)
  have bc := Lib.half_mul_le (a := x % 4294967296) (b := y / 4294967296) (by omega) (by omega)
  have ba' : x / 4294967296 * (y / 4294967296) < 18446744073709551616 := by omega
  have bb' : x / 4294967296 * (y % 4294967296) < 18446744073709551616 := by omega
  have bc' : x % 4294967296 * (y / 4294967296) < 18446744073709551616 := by omega
  have bh1 : x / 4294967296 * (y / 4294967296) + (x / 4294967296 * (y % 4294967296) + x % 4294967296 * (y % 4294967296) / 4294967296) / 4294967296 < 18446744073709551616 := by omega
  have bh : x / 4294967296 * (y / 4294967296) + (x / 4294967296 * (y % 4294967296) + x % 4294967296 * (y % 4294967296) / 4294967296) / 4294967296 + ((x / 4294967296 * (y % 4294967296) + x % 4294967296 * (y % 4294967296) / 4294967296) % 4294967296 + x % 4294967296 * (y / 4294967296)) / 4294967296 < 18446744073709551616 := by omega
  go_enter Yba.func6, Yba.ntmps6
  go_wp2
  simp only [maskN x hx, maskN y hy, divN, mulN, addN, wrapN _ bd, wrapN _ bb', wrapN _ bt, maskN _ bt, wrapN _ bc', wrapN _ bw, wrapN _ ba', wrapN _ bh1, wrapN _ bh, wrapM (x * y)]
  rw [hhi]
  go_ret2
  exact ⟨rfl, rfl⟩

theorem mul64 (x y : Int) (hx0 : 0 ≤ x) (hy0 : 0 ≤ y) (hx : x ≤ 9223372036854775807) (hy : y ≤ 9223372036854775807) (w : World) :
    Calls Yba.prog 6 #[.int .u64 x, .int .u64 y] w fun e w' => ∃ hi lo : Int, e = .returned (.tuple #[.int .u64 hi, .int .u64 lo]) ∧ 0 ≤ hi ∧ 0 ≤ lo ∧ lo ≤ 18446744073709551615 ∧ hi * 18446744073709551616 + lo = x * y ∧ w' = w := by
  obtain ⟨x, rfl⟩ := Int.eq_ofNat_of_zero_le hx0
  obtain ⟨y, rfl⟩ := Int.eq_ofNat_of_zero_le hy0
  refine (mul64N x y (by omega) (by omega) w).mono ?_
  rintro e w' ⟨rfl, rfl⟩
  refine ⟨_, _, rfl, by omega, by omega, by omega, ?_, rfl⟩
  rw [mulN]
  omega
end Go.Proofs.Ybulkbnji
