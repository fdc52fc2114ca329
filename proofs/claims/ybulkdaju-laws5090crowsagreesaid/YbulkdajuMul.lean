/-
  math/bits.Mul64 at this dump: the shelf's own proof turned to this program's numbers.
-/
import Derived.Test.YbulkdajuBase
import Derived.Lib.Mul64
import Derived.Laws.Bits64b
namespace Go.Proofs.Ybulkdaju
open Go.RowKit
/-- The high and the low word of the product. -/
def hi64 (x y : Int) : Int := x * y / 18446744073709551616
def lo64 (x y : Int) : Int := x * y % 18446744073709551616
theorem hi64_bd {x y : Int} (hx : 0 ≤ x) (hx' : x ≤ 18446744073709551615) (hy : 0 ≤ y) (hy' : y ≤ 18446744073709551615) : 0 ≤ hi64 x y ∧ hi64 x y ≤ 18446744073709551615 := by
  unfold hi64
  have h := Int.mul_le_mul hx' hy' hy (by omega)
  have h0 := Int.mul_nonneg hx hy
  omega
theorem hi64_lt {x y : Int} (hx' : x ≤ 18446744073709551615) (hy : 0 < y) : hi64 x y < y := by
  unfold hi64
  have h : x * y ≤ 18446744073709551615 * y := Int.mul_le_mul_of_nonneg_right hx' (by omega)
  omega
theorem lo64_bd (x y : Int) : 0 ≤ lo64 x y ∧ lo64 x y ≤ 18446744073709551615 := by
  unfold lo64
  omega
namespace Mul64
theorem maskN (a : Nat) (ha : a < 18446744073709551616) : bits .and .u64 (a : Int) 4294967295 = ((a % 4294967296 : Nat) : Int) := by
  have h := bits_and_u64_nat a 4294967295 ha (by omega)
  have e : a &&& 4294967295 = a % 4294967296 := Nat.and_two_pow_sub_one_eq_mod a 32
  rw [e] at h
  exact h
theorem divN (a : Nat) : (a : Int) / 4294967296 = ((a / 4294967296 : Nat) : Int) := by omega
theorem mulN (a b : Nat) : (a : Int) * (b : Int) = ((a * b : Nat) : Int) := (Int.natCast_mul a b).symm
theorem addN (a b : Nat) : (a : Int) + (b : Int) = ((a + b : Nat) : Int) := (Int.natCast_add a b).symm
theorem wrapN (a : Nat) (ha : a < 18446744073709551616) : IntKind.u64.wrap (a : Int) = (a : Int) := by rw [IntKind.wrap_u64]; omega
theorem wrapM (a : Nat) : IntKind.u64.wrap (a : Int) = ((a % 18446744073709551616 : Nat) : Int) := by rw [IntKind.wrap_u64]; omega
end Mul64
set_option maxHeartbeats 1000000 in
theorem mul64_nat (x y : Nat) (hx : x < 18446744073709551616) (hy : y < 18446744073709551616) (w : World) :
    Calls Yba.prog 11 #[.int .u64 x, .int .u64 y] w fun e w' => e = .returned (.tuple #[.int .u64 ((x * y / 18446744073709551616 : Nat) : Int), .int .u64 ((x * y % 18446744073709551616 : Nat) : Int)]) ∧ w' = w := by
  obtain ⟨bd, bt, bw, hhi⟩ := Lib.mul64_hi x y hx hy
  have ba := Lib.half_mul_le (a := x / 4294967296) (b := y / 4294967296) (by omega) (by omega)
  have bb := Lib.half_mul_le (a := x / 4294967296) (b := y % 4294967296) (by omega) (by omega)
  have bc := Lib.half_mul_le (a := x % 4294967296) (b := y / 4294967296) (by omega) (by omega)
  have ba' : x / 4294967296 * (y / 4294967296) < 18446744073709551616 := by omega
  have bb' : x / 4294967296 * (y % 4294967296) < 18446744073709551616 := by omega
  have bc' : x % 4294967296 * (y / 4294967296) < 18446744073709551616 := by omega
  have bh1 : x / 4294967296 * (y / 4294967296) + (x / 4294967296 * (y % 4294967296) + x % 4294967296 * (y % 4294967296) / 4294967296) / 4294967296 < 18446744073709551616 := by omega
  have bh : x / 4294967296 * (y / 4294967296) + (x / 4294967296 * (y % 4294967296) + x % 4294967296 * (y % 4294967296) / 4294967296) / 4294967296 + ((x / 4294967296 * (y % 4294967296) + x % 4294967296 * (y % 4294967296) / 4294967296) % 4294967296 + x % 4294967296 * (y / 4294967296)) / 4294967296 < 18446744073709551616 := by omega
  go_enter Yba.func11, Yba.ntmps11
  go_wp2
  simp only [Mul64.maskN x hx, Mul64.maskN y hy, Mul64.divN, Mul64.mulN, Mul64.addN, Mul64.wrapN _ bd, Mul64.wrapN _ bb', Mul64.wrapN _ bt, Mul64.maskN _ bt, Mul64.wrapN _ bc', Mul64.wrapN _ bw, Mul64.wrapN _ ba', Mul64.wrapN _ bh1, Mul64.wrapN _ bh, Mul64.wrapM (x * y)]
  rw [hhi]
  go_ret2
  exact ⟨rfl, rfl⟩
theorem mul64_any (x y : Int) (hx : 0 ≤ x) (hx' : x ≤ 18446744073709551615) (hy : 0 ≤ y) (hy' : y ≤ 18446744073709551615) (w : World) :
    Calls Yba.prog 11 #[.int .u64 x, .int .u64 y] w fun e w' => e = .returned (.tuple #[.int .u64 (hi64 x y), .int .u64 (lo64 x y)]) ∧ w = w' := by
  obtain ⟨X, rfl⟩ := Int.eq_ofNat_of_zero_le hx
  obtain ⟨Y, rfl⟩ := Int.eq_ofNat_of_zero_le hy
  refine (mul64_nat X Y (by omega) (by omega) w).mono fun e w' ⟨h1, h2⟩ => ⟨?_, h2.symm⟩
  rw [h1]
  unfold hi64 lo64
  rw [← Int.natCast_mul]
  rfl
end Go.Proofs.Ybulkdaju
