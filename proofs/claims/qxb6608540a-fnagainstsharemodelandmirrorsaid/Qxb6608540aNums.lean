/-
  Walks of the 128-bit products: math/bits.Mul64, the law's own zzMul128; comparisons of such products.
-/
import Derived.Test.Qxb6608540aRows
import Derived.WalkKit
import Derived.ProofKit
import Derived.Outline
import Derived.Lib.Mul64
import Derived.Laws.Bits64b
import Derived.Lib.EndianBits
namespace Go.Proofs.Qxb6608540a
open Go.RowKit Go.Lib
set_option linter.unusedVariables false

theorem maskN (a : Nat) (ha : a < 18446744073709551616) : bits .and .u64 (a : Int) 4294967295 = ((a % 4294967296 : Nat) : Int) := by
  have h := bits_and_u64_nat a 4294967295 ha (by omega)
  have e : a &&& 4294967295 = a % 4294967296 := Nat.and_two_pow_sub_one_eq_mod a 32
  rw [e] at h
  exact h
theorem divN (a : Nat) : (a : Int) / 4294967296 = ((a / 4294967296 : Nat) : Int) := by omega
theorem mulN (a b : Nat) : (a : Int) * (b : Int) = ((a * b : Nat) : Int) := (Int.natCast_mul a b).symm
theorem addN (a b : Nat) : (a : Int) + (b : Int) = ((a + b : Nat) : Int) := (Int.natCast_add a b).symm
theorem wrapN (a : Nat) (ha : a < 18446744073709551616) : IntKind.u64.wrap (a : Int) = (a : Int) := by rw [IntKind.wrap_u64]; omega
theorem wrapM (a : Nat) : IntKind.u64.wrap (a : Int) = ((a % 18446744073709551616 : Nat) : Int) := by rw [IntKind.wrap_u64]; omega

set_option maxHeartbeats 1000000 in
theorem mul64_any (x y : Nat) (hx : x < 18446744073709551616) (hy : y < 18446744073709551616) (w : World) :
    Calls Try.prog 28 #[.int .u64 x, .int .u64 y] w fun e w' => e = .returned (.tuple #[.int .u64 ((x * y / 18446744073709551616 : Nat) : Int), .int .u64 ((x * y % 18446744073709551616 : Nat) : Int)]) ∧ w = w' := by
  obtain ⟨bd, bt, bw, hhi⟩ := Lib.mul64_hi x y hx hy
  have ba := Lib.half_mul_le (a := x / 4294967296) (b := y / 4294967296) (by omega) (by omega)
  have bb := Lib.half_mul_le (a := x / 4294967296) (b := y % 4294967296) (by omega) (by omega)
  have bc := Lib.half_mul_le (a := x % 4294967296) (b := y / 4294967296) (by omega) (by omega)
  have ba' : x / 4294967296 * (y / 4294967296) < 18446744073709551616 := by omega
  have bb' : x / 4294967296 * (y % 4294967296) < 18446744073709551616 := by omega
  have bc' : x % 4294967296 * (y / 4294967296) < 18446744073709551616 := by omega
  have bh1 : x / 4294967296 * (y / 4294967296) + (x / 4294967296 * (y % 4294967296) + x % 4294967296 * (y % 4294967296) / 4294967296) / 4294967296 < 18446744073709551616 := by omega
  have bh : x / 4294967296 * (y / 4294967296) + (x / 4294967296 * (y % 4294967296) + x % 4294967296 * (y % 4294967296) / 4294967296) / 4294967296 + ((x / 4294967296 * (y % 4294967296) + x % 4294967296 * (y % 4294967296) / 4294967296) % 4294967296 + x % 4294967296 * (y / 4294967296)) / 4294967296 < 18446744073709551616 := by omega
  go_enter Try.func28, Try.ntmps28
  go_wp2
  simp only [maskN x hx, maskN y hy, divN, mulN, addN, wrapN _ bd, wrapN _ bb', wrapN _ bt, maskN _ bt, wrapN _ bc', wrapN _ bw, wrapN _ ba', wrapN _ bh1, wrapN _ bh, wrapM (x * y)]
  rw [hhi]
  go_ret2
  exact ⟨rfl, rfl⟩

theorem ret_two {k k' : IntKind} {a b c d : Int} (h1 : a = b) (h2 : c = d) : Ending.returned (.tuple #[.int k a, .int k' c]) = .returned (.tuple #[.int k b, .int k' d]) := by rw [h1, h2]

theorem or32 (y x : Int) (hy₀ : 0 ≤ y) (hy : y < 4294967296) (hx₀ : 0 ≤ x) (hx : x % 4294967296 = 0) (hx₁ : x < 18446744073709551616) : bits .or .u64 y x = y + x :=
  bits_join_low .u64 64 (by decide) wraps_u64 32 y x hy₀ hy (by omega) hx₀ hx hx₁

/-- The school method on halves. -/
theorem school (x y : Nat) (hx : x < 18446744073709551616) (hy : y < 18446744073709551616) :
    ∃ p00 p01 p10 p11 : Nat, p00 = (x % 4294967296) * (y % 4294967296) ∧ p01 = (x % 4294967296) * (y / 4294967296) ∧ p10 = (x / 4294967296) * (y % 4294967296) ∧ p11 = (x / 4294967296) * (y / 4294967296) ∧
      p00 ≤ 18446744065119617025 ∧ p01 ≤ 18446744065119617025 ∧ p10 ≤ 18446744065119617025 ∧ p11 ≤ 18446744065119617025 ∧ x * y = p11 * 18446744073709551616 + (p10 + p01) * 4294967296 + p00 := by
  refine ⟨_, _, _, _, rfl, rfl, rfl, rfl, Lib.half_mul_le (by omega) (by omega), Lib.half_mul_le (by omega) (by omega), Lib.half_mul_le (by omega) (by omega), Lib.half_mul_le (by omega) (by omega), ?_⟩
  have e : x * y = (x / 4294967296) * (y / 4294967296) * (4294967296 * 4294967296) + ((x / 4294967296) * (y % 4294967296) + (x % 4294967296) * (y / 4294967296)) * 4294967296 + (x % 4294967296) * (y % 4294967296) := by
    rw [← Lib.split_mul, Nat.div_add_mod' x 4294967296, Nat.div_add_mod' y 4294967296]
  exact e

theorem m128_hi (x y : Nat) (hx : x < 18446744073709551616) (hy : y < 18446744073709551616) :
    IntKind.u64.wrap (IntKind.u64.wrap (IntKind.u64.wrap (IntKind.u64.wrap ((x : Int) / 4294967296 * ((y : Int) / 4294967296)) + IntKind.u64.wrap (bits .and .u64 (x : Int) 4294967295 * ((y : Int) / 4294967296)) / 4294967296) +
        IntKind.u64.wrap ((x : Int) / 4294967296 * bits .and .u64 (y : Int) 4294967295) / 4294967296) +
      IntKind.u64.wrap (IntKind.u64.wrap (IntKind.u64.wrap (bits .and .u64 (x : Int) 4294967295 * bits .and .u64 (y : Int) 4294967295) / 4294967296 + bits .and .u64 (IntKind.u64.wrap (bits .and .u64 (x : Int) 4294967295 * ((y : Int) / 4294967296))) 4294967295) +
          bits .and .u64 (IntKind.u64.wrap ((x : Int) / 4294967296 * bits .and .u64 (y : Int) 4294967295)) 4294967295) / 4294967296) = ((x * y / 18446744073709551616 : Nat) : Int) := by
  obtain ⟨p00, p01, p10, p11, e00, e01, e10, e11, b00, b01, b10, b11, e⟩ := school x y hx hy
  simp only [maskN x hx, maskN y hy, divN, mulN, ← e00, ← e01, ← e10, ← e11, wrapN p00 (by omega), wrapN p01 (by omega), wrapN p10 (by omega), wrapN p11 (by omega), maskN p01 (by omega), maskN p10 (by omega), addN]
  rw [wrapN (p11 + p01 / 4294967296) (by omega), wrapN (p00 / 4294967296 + p01 % 4294967296) (by omega)]
  simp only [addN]
  rw [wrapN (p00 / 4294967296 + p01 % 4294967296 + p10 % 4294967296) (by omega), wrapN (p11 + p01 / 4294967296 + p10 / 4294967296) (by omega)]
  simp only [addN, divN]
  rw [wrapN _ (by omega), e]
  omega

theorem m128_lo (x y : Nat) (hx : x < 18446744073709551616) (hy : y < 18446744073709551616) :
    bits .or .u64 (bits .and .u64 (IntKind.u64.wrap (bits .and .u64 (x : Int) 4294967295 * bits .and .u64 (y : Int) 4294967295)) 4294967295)
      (IntKind.u64.wrap (IntKind.u64.wrap (IntKind.u64.wrap (IntKind.u64.wrap (bits .and .u64 (x : Int) 4294967295 * bits .and .u64 (y : Int) 4294967295) / 4294967296 + bits .and .u64 (IntKind.u64.wrap (bits .and .u64 (x : Int) 4294967295 * ((y : Int) / 4294967296))) 4294967295) +
          bits .and .u64 (IntKind.u64.wrap ((x : Int) / 4294967296 * bits .and .u64 (y : Int) 4294967295)) 4294967295) * 4294967296)) = ((x * y % 18446744073709551616 : Nat) : Int) := by
  obtain ⟨p00, p01, p10, p11, e00, e01, e10, e11, b00, b01, b10, b11, e⟩ := school x y hx hy
  simp only [maskN x hx, maskN y hy, divN, mulN, ← e00, ← e01, ← e10, wrapN p00 (by omega), wrapN p01 (by omega), wrapN p10 (by omega), maskN p00 (by omega), maskN p01 (by omega), maskN p10 (by omega), addN]
  rw [wrapN (p00 / 4294967296 + p01 % 4294967296) (by omega)]
  simp only [addN]
  rw [wrapN (p00 / 4294967296 + p01 % 4294967296 + p10 % 4294967296) (by omega), IntKind.wrap_u64, or32 _ _ (by omega) (by omega) (by omega) (by omega) (by omega), e]
  omega

set_option maxHeartbeats 1000000 in
theorem mul128_any (x y : Nat) (hx : x < 18446744073709551616) (hy : y < 18446744073709551616) (w : World) :
    Calls Try.prog 32 #[.int .u64 x, .int .u64 y] w fun e w' => e = .returned (.tuple #[.int .u64 ((x * y / 18446744073709551616 : Nat) : Int), .int .u64 ((x * y % 18446744073709551616 : Nat) : Int)]) ∧ w = w' := by
  go_enter Try.func32, Try.ntmps32
  go_wp2
  go_ret2
  exact ⟨ret_two (m128_hi x y hx hy) (m128_lo x y hx hy), rfl⟩
end Go.Proofs.Qxb6608540a
