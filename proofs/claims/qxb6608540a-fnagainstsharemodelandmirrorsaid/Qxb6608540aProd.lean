/-
  Plain: products that wrap round at 64 bits. No Go in sight.
-/
import Derived.WalkKit
namespace Go.Proofs.Qxb6608540a
open Go.RowKit

/-- The product of the numbers l, over the integers. -/
def prodI : List Int → Int
  | [] => 1
  | x :: l => x * prodI l

/-- .. as an int holds it. -/
def prodW (l : List Int) : Int := wrap64 (prodI l)

theorem wrap_mod (z : Int) : (wrap64 z - z) % 18446744073709551616 = 0 := by
  unfold wrap64; omega

theorem wrap_of_mod {a b : Int} (h : (a - b) % 18446744073709551616 = 0) : wrap64 a = wrap64 b := by
  unfold wrap64; omega

theorem wrap_wrap_mul (a b : Int) : wrap64 (wrap64 a * b) = wrap64 (a * b) := by
  apply wrap_of_mod
  have h := wrap_mod a
  obtain ⟨k, hk⟩ := Int.dvd_of_emod_eq_zero h
  have e : wrap64 a * b - a * b = 18446744073709551616 * (k * b) := by
    rw [← Int.sub_mul, hk, Int.mul_assoc]
  rw [e]
  exact Int.mul_emod_right _ _

theorem wrap_mul_wrap (a b : Int) : wrap64 (a * wrap64 b) = wrap64 (a * b) := by
  rw [Int.mul_comm, wrap_wrap_mul, Int.mul_comm]

theorem prodI_append (a b : List Int) : prodI (a ++ b) = prodI a * prodI b := by
  induction a with
  | nil => simp [prodI]
  | cons x l ih => simp [prodI, ih, Int.mul_assoc]

theorem prodW_nil : prodW [] = 1 := by
  unfold prodW prodI wrap64
  omega

theorem prodW_cons (x : Int) (l : List Int) : prodW (x :: l) = wrap64 (prodW l * x) := by
  unfold prodW
  rw [wrap_wrap_mul, prodI, Int.mul_comm]

theorem prodW_snoc (l : List Int) (x : Int) : prodW (l ++ [x]) = wrap64 (prodW l * x) := by
  unfold prodW
  rw [wrap_wrap_mul, prodI_append]
  simp [prodI]

theorem prodW_append (a b : List Int) : prodW (a ++ b) = wrap64 (prodW a * prodW b) := by
  unfold prodW
  rw [wrap_wrap_mul, wrap_mul_wrap, prodI_append]

/-- One step of 'strides' from the right. -/
theorem prodW_drop (xs : List Int) (m : Nat) (h : m < xs.length) : prodW (xs.drop m) = wrap64 (prodW (xs.drop (m + 1)) * xs.getD m 0) := by
  rw [List.drop_eq_getElem_cons h, prodW_cons]
  simp [List.getD, List.getElem?_eq_getElem h]

theorem wrap64_bounds (z : Int) : -9223372036854775808 ≤ wrap64 z ∧ wrap64 z ≤ 9223372036854775807 := by
  unfold wrap64; omega

end Go.Proofs.Qxb6608540a
