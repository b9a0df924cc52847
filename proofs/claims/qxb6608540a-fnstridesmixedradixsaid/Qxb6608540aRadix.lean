/-
  Plain: numbers of mixed radix. No Go in sight.
-/
import Derived.Test.Qxb6608540aProd
namespace Go.Proofs.Qxb6608540a
open Go.RowKit

/-- The cell's number: coordinate times stride, summed. -/
def cellL : List Int → List Int → Int
  | _ :: xs, c :: cs => c * prodI xs + cellL xs cs
  | _, _ => 0

/-- Coordinates within their counts. -/
def okL (xs cs : List Int) : Prop := xs.length = cs.length ∧ ∀ j, j < xs.length → 1 ≤ xs.getD j 0 ∧ 0 ≤ cs.getD j 0 ∧ cs.getD j 0 < xs.getD j 0

theorem okL_tail {x c : Int} {xs cs : List Int} (h : okL (x :: xs) (c :: cs)) : okL xs cs := by
  refine ⟨by simpa using h.1, fun j hj => ?_⟩
  have := h.2 (j + 1) (by simpa using hj)
  simpa using this

theorem okL_head {x c : Int} {xs cs : List Int} (h : okL (x :: xs) (c :: cs)) : 1 ≤ x ∧ 0 ≤ c ∧ c < x := by
  have := h.2 0 (by simp)
  simpa using this

theorem prodI_pos : ∀ (xs : List Int), (∀ j, j < xs.length → 1 ≤ xs.getD j 0) → 1 ≤ prodI xs
  | [], _ => by simp [prodI]
  | x :: xs, h => by
    have h0 := h 0 (by simp)
    have ih := prodI_pos xs (fun j hj => by have := h (j + 1) (by simpa using hj); simpa using this)
    simp at h0
    have := Int.mul_le_mul h0 ih (by omega) (by omega)
    rw [prodI]
    omega

theorem cellL_bounds : ∀ (xs cs : List Int), okL xs cs → 0 ≤ cellL xs cs ∧ cellL xs cs + 1 ≤ prodI xs
  | [], cs, _ => by simp [cellL, prodI]
  | x :: xs, [], h => by simp [okL] at h
  | x :: xs, c :: cs, h => by
    have ih := cellL_bounds xs cs (okL_tail h)
    obtain ⟨h1, h2, h3⟩ := okL_head h
    have hp : 0 ≤ prodI xs := by omega
    have m1 : 0 ≤ c * prodI xs := Int.mul_nonneg h2 hp
    have m2 : (c + 1) * prodI xs ≤ x * prodI xs := Int.mul_le_mul_of_nonneg_right (by omega) hp
    rw [Int.add_mul, Int.one_mul] at m2
    simp only [cellL, prodI]
    omega

theorem okL_drop {xs cs : List Int} (h : okL xs cs) (k : Nat) : okL (xs.drop k) (cs.drop k) := by
  refine ⟨by simp [h.1], fun j hj => ?_⟩
  rw [List.length_drop] at hj
  have := h.2 (k + j) (by omega)
  simpa [List.getD] using this

theorem drop_cons (xs : List Int) (k : Nat) (h : k < xs.length) : xs.drop k = xs.getD k 0 :: xs.drop (k + 1) := by
  rw [List.drop_eq_getElem_cons h]
  simp [List.getD, List.getElem?_eq_getElem h]

theorem cellL_drop (xs cs : List Int) (h : okL xs cs) (k : Nat) (hk : k < xs.length) : cellL (xs.drop k) (cs.drop k) = cs.getD k 0 * prodI (xs.drop (k + 1)) + cellL (xs.drop (k + 1)) (cs.drop (k + 1)) := by
  rw [drop_cons xs k hk, drop_cons cs k (by rw [← h.1]; exact hk), cellL]

theorem prodI_drop (xs : List Int) (k : Nat) (hk : k < xs.length) : prodI (xs.drop k) = xs.getD k 0 * prodI (xs.drop (k + 1)) := by
  rw [drop_cons xs k hk, prodI]

/-- The number of the cell up to coordinate k. -/
def cellTo (xs cs : List Int) (k : Nat) : Int := cellL xs cs - cellL (xs.drop k) (cs.drop k)

theorem cellTo_zero (xs cs : List Int) : cellTo xs cs 0 = 0 := by simp [cellTo]

theorem cellTo_succ (xs cs : List Int) (h : okL xs cs) (k : Nat) (hk : k < xs.length) : cellTo xs cs (k + 1) = cellTo xs cs k + cs.getD k 0 * prodI (xs.drop (k + 1)) := by
  unfold cellTo
  rw [cellL_drop xs cs h k hk]
  omega

theorem cellTo_mul (xs cs : List Int) (h : okL xs cs) : ∀ k, k ≤ xs.length → ∃ q, 0 ≤ q ∧ cellTo xs cs k = q * prodI (xs.drop k)
  | 0, _ => ⟨0, Int.le_refl _, by rw [cellTo_zero]; simp⟩
  | k + 1, hk => by
    obtain ⟨q, hq, e⟩ := cellTo_mul xs cs h k (by omega)
    obtain ⟨h1, h2, h3⟩ := h.2 k (by omega)
    refine ⟨q * xs.getD k 0 + cs.getD k 0, ?_, ?_⟩
    · have := Int.mul_nonneg hq (show 0 ≤ xs.getD k 0 by omega)
      omega
    · rw [cellTo_succ xs cs h k (by omega), e, prodI_drop xs k (by omega), Int.add_mul, Int.mul_assoc]

theorem cellTo_nonneg (xs cs : List Int) (h : okL xs cs) (k : Nat) (hk : k ≤ xs.length) : 0 ≤ cellTo xs cs k := by
  obtain ⟨q, hq, e⟩ := cellTo_mul xs cs h k hk
  have hp := (cellL_bounds _ _ (okL_drop h k))
  rw [e]
  exact Int.mul_nonneg hq (by omega)

theorem cellTo_le (xs cs : List Int) (h : okL xs cs) (k : Nat) : cellTo xs cs k + 1 ≤ prodI xs := by
  have h1 := cellL_bounds xs cs h
  have h2 := cellL_bounds _ _ (okL_drop h k)
  unfold cellTo
  omega

theorem cellTo_all (xs cs : List Int) : cellTo xs cs xs.length = cellL xs cs := by
  unfold cellTo
  rw [List.drop_length]
  simp [cellL]

/-- The coordinate, read back. -/
theorem read_back (xs cs : List Int) (h : okL xs cs) (k : Nat) (hk : k < xs.length) : cellL xs cs / prodI (xs.drop (k + 1)) % xs.getD k 0 = cs.getD k 0 := by
  obtain ⟨q, hq, e⟩ := cellTo_mul xs cs h k (by omega)
  obtain ⟨h1, h2, h3⟩ := h.2 k hk
  have hB := cellL_bounds _ _ (okL_drop h (k + 1))
  have e2 : cellL xs cs = (q * xs.getD k 0 + cs.getD k 0) * prodI (xs.drop (k + 1)) + cellL (xs.drop (k + 1)) (cs.drop (k + 1)) := by
    have e3 : cellL xs cs = cellTo xs cs k + cellL (xs.drop k) (cs.drop k) := by unfold cellTo; omega
    rw [e3, e, cellL_drop xs cs h k hk, prodI_drop xs k hk, Int.add_mul, Int.mul_assoc]
    omega
  have hT : 0 < prodI (xs.drop (k + 1)) := by omega
  have e4 : cellL xs cs / prodI (xs.drop (k + 1)) = q * xs.getD k 0 + cs.getD k 0 := by
    rw [e2, Int.add_comm, Int.add_mul_ediv_right _ _ (by omega), Int.ediv_eq_zero_of_lt hB.1 (by omega)]
    omega
  rw [e4, Int.add_comm, Int.add_mul_emod_self_right, Int.emod_eq_of_lt h2 h3]

theorem prodI_take_succ (xs : List Int) (k : Nat) (hk : k < xs.length) : prodI (xs.take (k + 1)) = prodI (xs.take k) * xs.getD k 0 := by
  rw [List.take_succ_eq_append_getElem hk, prodI_append]
  simp [prodI, List.getD, List.getElem?_eq_getElem hk]

/-- A tail's product is at most the whole's. -/
theorem prodI_drop_le (xs : List Int) (h : ∀ j, j < xs.length → 1 ≤ xs.getD j 0) (k : Nat) : 1 ≤ prodI (xs.drop k) ∧ prodI (xs.drop k) ≤ prodI xs := by
  have h1 : 1 ≤ prodI (xs.take k) := prodI_pos _ (fun j hj => by
    have hj' : j < xs.length := by rw [List.length_take] at hj; omega
    have hjk : j < k := by rw [List.length_take] at hj; omega
    have := h j hj'
    simpa [List.getD, List.getElem?_take, hjk] using this)
  have h2 : 1 ≤ prodI (xs.drop k) := prodI_pos _ (fun j hj => by
    rw [List.length_drop] at hj
    have := h (k + j) (by omega)
    simpa [List.getD] using this)
  have e : prodI xs = prodI (xs.take k) * prodI (xs.drop k) := by rw [← prodI_append, List.take_append_drop]
  have := Int.mul_le_mul_of_nonneg_right h1 (show 0 ≤ prodI (xs.drop k) by omega)
  rw [Int.one_mul] at this
  rw [e]
  exact ⟨h2, this⟩

/-- The stride as the int holds it is the stride. -/
theorem prodW_eq (xs : List Int) (h : ∀ j, j < xs.length → 1 ≤ xs.getD j 0) (hp : prodI xs ≤ 1073741824) (k : Nat) : prodW (xs.drop k) = prodI (xs.drop k) := by
  have := prodI_drop_le xs h k
  unfold prodW wrap64
  omega

/-- 'y > (1<<30)/p', read as a product. -/
theorem div_test {P y : Int} (hP : 1 ≤ P) (h : y ≤ 1073741824 / P) : P * y ≤ 1073741824 := by
  have := (Int.le_ediv_iff_mul_le (by omega : 0 < P)).1 h
  rw [Int.mul_comm]
  exact this
end Go.Proofs.Qxb6608540a
