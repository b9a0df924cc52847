/-
  Walks of zzUabs, (Amount).Abs, money.ShareOf, (sumPosition).base, againstShare, ZZsumPositionAgainstShare.
-/
import Derived.Test.Qxb6608540aCmp
import Derived.Laws.ResultCell
namespace Go.Proofs.Qxb6608540a
open Go.RowKit Go.Lib
set_option linter.unusedVariables false

/-- An int64 read as a uint64. -/
def toU (v : Int) : Nat := (v % 18446744073709551616).toNat
theorem toU_lt (v : Int) : toU v < 18446744073709551616 := by unfold toU; omega
theorem toU_wrap (v : Int) : IntKind.u64.wrap v = (toU v : Int) := by rw [IntKind.wrap_u64]; unfold toU; omega
theorem toU_nonneg {v : Int} (h : 0 ≤ v) (h2 : v < 9223372036854775808) : (toU v : Int) = v := by unfold toU; omega

/-- The magnitude. -/
def uabs (v : Int) : Nat := v.natAbs

/-- (Amount).Abs: the least int64 stays. -/
def absV (v : Int) : Int := if v < 0 then wrap64 (-v) else v

theorem toU_absV (v : Int) (h1 : -9223372036854775808 ≤ v) (h2 : v ≤ 9223372036854775807) : toU (absV v) = uabs v := by
  unfold toU absV uabs wrap64
  split <;> omega

theorem absV_nonneg {v : Int} (h : 0 ≤ v) : absV v = v := by
  unfold absV
  rw [if_neg (by omega)]

theorem ret_int {k : IntKind} {a b : Int} (h : a = b) : Ending.returned (.int k a) = .returned (.int k b) := by rw [h]

set_option maxHeartbeats 1000000 in
theorem uabs_any (v : Int) (h1 : -9223372036854775808 ≤ v) (h2 : v ≤ 9223372036854775807) (w : World) :
    Calls Try.prog 16 #[.int .i64 v] w fun e w' => e = .returned (.int .u64 (uabs v : Int)) ∧ w = w' := by
  by_cases h : v < 0
  · go_enter Try.func16, Try.ntmps16
    go_wp2
    go_ret
    exact ⟨ret_int (by rw [IntKind.wrap_u64, IntKind.wrap_u64]; unfold uabs; omega), rfl⟩
  · go_enter Try.func16, Try.ntmps16
    go_wp2
    go_ret
    exact ⟨ret_int (by unfold uabs; omega), rfl⟩

set_option maxHeartbeats 1000000 in
theorem abs_any (v : Int) (w : World) :
    Calls Try.prog 23 #[.int .i64 v] w fun e w' => e = .returned (.int .i64 (absV v)) ∧ w = w' := by
  by_cases h : v < 0
  · have e : absV v = wrap64 (-v) := by simp [absV, h]
    rw [e]
    clear e
    go_enter Try.func23, Try.ntmps23
    go_wp2
    go_ret
    exact ⟨rfl, rfl⟩
  · have e : absV v = v := by simp [absV, h]
    rw [e]
    clear e
    go_enter Try.func23, Try.ntmps23
    go_wp2
    go_ret
    exact ⟨rfl, rfl⟩

set_option maxHeartbeats 1000000 in
theorem shareOf_any (p base : Int) (w : World) :
    Calls Try.prog 15 #[.int .i64 p, .int .i64 base] w fun e w' => e = .returned (exact2 (toU base * toU p)) ∧ Below w.heap.size w w' := by
  have hm := fun w => mul64_any (toU base) (toU p) (toU_lt _) (toU_lt _) w
  have hp := toU_wrap p
  have hb := toU_wrap base
  unfold exact2
  obtain ⟨h1, e1⟩ : ∃ h1, h1 = toU base * toU p / 18446744073709551616 := ⟨_, rfl⟩
  obtain ⟨l1, e2⟩ : ∃ l1, l1 = toU base * toU p % 18446744073709551616 := ⟨_, rfl⟩
  rw [← e1, ← e2] at hm ⊢
  clear e1 e2
  go_enter Try.func15, Try.ntmps15
  go_wp2_with fail
  refine (hm _).mono ?_
  rintro e w' ⟨rfl, rfl⟩
  clear hp hb hm
  go_wp2
  refine bodyPost_ret (v := .agg #[.int .u64 (h1 : Int), .int .u64 (l1 : Int)]) (by simp [results, Try.results15, go_sem]) rfl ⟨rfl, ?_⟩
  exact (Below.refl _ _).alloc (Nat.le_refl _) _
end Go.Proofs.Qxb6608540a
