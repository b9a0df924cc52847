/-
  Walks of cmp.Compare at uint64, (Exact).Compare, zzCmpProducts, zzUabs, (Amount).Abs, money.ShareOf.
-/
import Derived.Test.Qxb6608540aNums
import Derived.Laws.ResultCell
namespace Go.Proofs.Qxb6608540a
open Go.RowKit Go.Lib
set_option linter.unusedVariables false

/-- The sign of x - y. -/
def sgn3 (x y : Nat) : Int := if x < y then -1 else if y < x then 1 else 0

theorem sgn3_lt {x y : Nat} (h : x < y) : sgn3 x y = -1 := by simp [sgn3, h]
theorem sgn3_gt {x y : Nat} (h : y < x) : sgn3 x y = 1 := by simp [sgn3, h, Nat.not_lt_of_gt h]
theorem sgn3_eq (x : Nat) : sgn3 x x = 0 := by simp [sgn3]
theorem sgn3_neg (x y : Nat) : sgn3 y x = -sgn3 x y := by
  rcases Nat.lt_trichotomy x y with h | h | h
  · rw [sgn3_lt h, sgn3_gt h]; rfl
  · subst h; rw [sgn3_eq]; rfl
  · rw [sgn3_gt h, sgn3_lt h]

set_option maxHeartbeats 1000000 in
theorem cmp_any (x y : Nat) (w : World) :
    Calls Try.prog 36 #[.int .u64 x, .int .u64 y] w fun e w' => e = .returned (.int .i64 (sgn3 x y)) ∧ w = w' := by
  rcases Nat.lt_trichotomy x y with h | h | h
  · rw [sgn3_lt h]
    go_enter Try.func36, Try.ntmps36
    go_wp2
    go_ret
    exact ⟨rfl, rfl⟩
  · subst h
    rw [sgn3_eq]
    go_enter Try.func36, Try.ntmps36
    go_wp2
    go_ret
    exact ⟨rfl, rfl⟩
  · rw [sgn3_gt h]
    go_enter Try.func36, Try.ntmps36
    go_wp2
    go_ret
    exact ⟨rfl, rfl⟩

/-- A product as its two halves. -/
theorem sgn3_hi {X Y : Nat} (h : ((X / 18446744073709551616 : Nat) : Int) ≠ ((Y / 18446744073709551616 : Nat) : Int)) : sgn3 (X / 18446744073709551616) (Y / 18446744073709551616) = sgn3 X Y := by
  rcases Nat.lt_trichotomy (X / 18446744073709551616) (Y / 18446744073709551616) with g | g | g
  · rw [sgn3_lt g, sgn3_lt (by omega)]
  · omega
  · rw [sgn3_gt g, sgn3_gt (by omega)]
theorem sgn3_lo {X Y : Nat} (h : X / 18446744073709551616 = Y / 18446744073709551616) : sgn3 (X % 18446744073709551616) (Y % 18446744073709551616) = sgn3 X Y := by
  rcases Nat.lt_trichotomy (X % 18446744073709551616) (Y % 18446744073709551616) with g | g | g
  · rw [sgn3_lt g, sgn3_lt (by omega)]
  · have e : X = Y := by omega
    subst e; rw [sgn3_eq, sgn3_eq]
  · rw [sgn3_gt g, sgn3_gt (by omega)]

/-- An Exact: a product of two uint64s. -/
def exact2 (X : Nat) : Value := .agg #[.int .u64 ((X / 18446744073709551616 : Nat) : Int), .int .u64 ((X % 18446744073709551616 : Nat) : Int)]

set_option maxHeartbeats 1000000 in
theorem compare_any (X Y : Nat) (w : World) :
    Calls Try.prog 34 #[exact2 X, exact2 Y] w fun e w' => e = .returned (.int .i64 (sgn3 X Y)) ∧ Below w.heap.size w w' := by
  unfold exact2
  obtain ⟨h1, e1⟩ : ∃ h1, h1 = X / 18446744073709551616 := ⟨_, rfl⟩
  obtain ⟨l1, e2⟩ : ∃ l1, l1 = X % 18446744073709551616 := ⟨_, rfl⟩
  obtain ⟨h2, e3⟩ : ∃ h2, h2 = Y / 18446744073709551616 := ⟨_, rfl⟩
  obtain ⟨l2, e4⟩ : ∃ l2, l2 = Y % 18446744073709551616 := ⟨_, rfl⟩
  rw [← e1, ← e2, ← e3, ← e4]
  by_cases h : h1 = h2
  · have hs : sgn3 X Y = sgn3 l1 l2 := by rw [e2, e4, sgn3_lo (by rw [← e1, ← e3]; exact h)]
    rw [hs]
    subst h
    clear e1 e2 e3 e4 hs
    go_enter Try.func34, Try.ntmps34
    go_wp2_with (go_at_call 36; refine (cmp_any _ _ _).mono ?_; rintro e w' ⟨rfl, rfl⟩)
    go_ret
    exact ⟨rfl, ((Below.refl _ _).alloc (Nat.le_refl _) _).alloc (by simp) _⟩
  · have hs : sgn3 X Y = sgn3 h1 h2 := by rw [e1, e3, sgn3_hi (by rw [← e1, ← e3]; omega)]
    rw [hs]
    have hne : ((h1 : Int) != (h2 : Int)) = true := by simp; omega
    clear e1 e2 e3 e4 hs h
    go_enter Try.func34, Try.ntmps34
    go_wp2_with (go_at_call 36; refine (cmp_any _ _ _).mono ?_; rintro e w' ⟨rfl, rfl⟩)
    go_ret
    exact ⟨rfl, ((Below.refl _ _).alloc (Nat.le_refl _) _).alloc (by simp) _⟩

set_option maxHeartbeats 1000000 in
theorem cmpProducts_any (a b c d : Nat) (ha : a < 18446744073709551616) (hb : b < 18446744073709551616) (hc : c < 18446744073709551616) (hd : d < 18446744073709551616) (w : World) :
    Calls Try.prog 22 #[.int .u64 a, .int .u64 b, .int .u64 c, .int .u64 d] w fun e w' => e = .returned (.int .i64 (sgn3 (a * b) (c * d))) ∧ w = w' := by
  have m1 := mul128_any a b ha hb w
  have m2 := mul128_any c d hc hd w
  obtain ⟨X, hX⟩ : ∃ X, X = a * b := ⟨_, rfl⟩
  obtain ⟨Y, hY⟩ : ∃ Y, Y = c * d := ⟨_, rfl⟩
  rw [← hX] at m1
  rw [← hY] at m2
  rw [← hX, ← hY]
  clear hX hY
  obtain ⟨h1, e1⟩ : ∃ h1, h1 = X / 18446744073709551616 := ⟨_, rfl⟩
  obtain ⟨l1, e2⟩ : ∃ l1, l1 = X % 18446744073709551616 := ⟨_, rfl⟩
  obtain ⟨h2, e3⟩ : ∃ h2, h2 = Y / 18446744073709551616 := ⟨_, rfl⟩
  obtain ⟨l2, e4⟩ : ∃ l2, l2 = Y % 18446744073709551616 := ⟨_, rfl⟩
  rw [← e1, ← e2] at m1
  rw [← e3, ← e4] at m2
  rcases Nat.lt_trichotomy h1 h2 with g | g | g
  · have hs : sgn3 X Y = -1 := sgn3_lt (by omega)
    rw [hs]
    have hne : ((h1 : Int) != (h2 : Int)) = true := by simp; omega
    clear e1 e2 e3 e4 hs
    go_enter Try.func22, Try.ntmps22
    go_wp2_with fail
    refine m1.mono ?_
    rintro e w' ⟨rfl, rfl⟩
    go_wp2_with fail
    refine m2.mono ?_
    rintro e w' ⟨rfl, rfl⟩
    go_wp2
    go_ret
    exact ⟨rfl, rfl⟩
  · have hs : sgn3 X Y = sgn3 l1 l2 := by rw [e2, e4, sgn3_lo (by rw [← e1, ← e3]; exact g)]
    rw [hs]
    subst g
    clear e1 e2 e3 e4 hs
    rcases Nat.lt_trichotomy l1 l2 with k | k | k
    · rw [sgn3_lt k]
      go_enter Try.func22, Try.ntmps22
      go_wp2_with fail
      refine m1.mono ?_
      rintro e w' ⟨rfl, rfl⟩
      go_wp2_with fail
      refine m2.mono ?_
      rintro e w' ⟨rfl, rfl⟩
      go_wp2
      go_ret
      exact ⟨rfl, rfl⟩
    · subst k
      rw [sgn3_eq]
      go_enter Try.func22, Try.ntmps22
      go_wp2_with fail
      refine m1.mono ?_
      rintro e w' ⟨rfl, rfl⟩
      go_wp2_with fail
      refine m2.mono ?_
      rintro e w' ⟨rfl, rfl⟩
      go_wp2
      go_ret
      exact ⟨rfl, rfl⟩
    · rw [sgn3_gt k]
      go_enter Try.func22, Try.ntmps22
      go_wp2_with fail
      refine m1.mono ?_
      rintro e w' ⟨rfl, rfl⟩
      go_wp2_with fail
      refine m2.mono ?_
      rintro e w' ⟨rfl, rfl⟩
      go_wp2
      go_ret
      exact ⟨rfl, rfl⟩
  · have hs : sgn3 X Y = 1 := sgn3_gt (by omega)
    rw [hs]
    have hne : ((h1 : Int) != (h2 : Int)) = true := by simp; omega
    clear e1 e2 e3 e4 hs
    go_enter Try.func22, Try.ntmps22
    go_wp2_with fail
    refine m1.mono ?_
    rintro e w' ⟨rfl, rfl⟩
    go_wp2_with fail
    refine m2.mono ?_
    rintro e w' ⟨rfl, rfl⟩
    go_wp2
    go_ret
    exact ⟨rfl, rfl⟩
end Go.Proofs.Qxb6608540a
