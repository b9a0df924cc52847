/-
  The walk of ZZgridStrides (and of (grid).strides in it).
-/
import Derived.Test.Qxb6608540aRows
import Derived.Test.Qxb6608540aProd
import Derived.WalkKit
import Derived.ProofKit
import Derived.OwnWalk
import Derived.LoopTactic
import Derived.Outline
import Derived.Laws.MakeOwn
import Derived.Laws.CopyOwn
import Derived.WalkSpells
import Derived.WalkSmall
namespace Go.Proofs.Qxb6608540a
open Go.RowKit
set_option linter.unusedVariables false

theorem Try.info3 : (Try.prog.info? 3).map (fun i => (i.zero, i.size, i.bytes)) = some (some (.int .i64 0), 1, 8) := by kernel_rfl

/-- A row of ints, its address told only where it has an element. -/
def IntAt (w : World) (a : Option Addr) (xs : List Int) : Prop :=
  0 < xs.length → ∃ b off, a = some ⟨b, off, none⟩ ∧ b < w.heap.size ∧ ∀ j, j < xs.length → w.cell? ⟨b, off + j, none⟩ = some (.int .i64 (xs.getD j 0))

theorem IntAt.carry {w w' : World} {a : Option Addr} {xs : List Int} (h : IntAt w a xs) (hb : Below w.heap.size w w') : IntAt w' a xs := by
  intro h0
  obtain ⟨b, off, rfl, hlt, hc⟩ := h h0
  exact ⟨b, off, rfl, Nat.lt_of_lt_of_le hlt hb.size, fun j hj => (hb.cell (p := ⟨b, off + j, none⟩) hlt).trans (hc j hj)⟩

theorem set_left {c : Array Value} {m len : Nat} {xs : List Int} (h : ∀ i, m + 1 ≤ i → i < len → c[i]? = some (.int .i64 (prodW (xs.drop (i + 1))))) (hk : m < c.size) :
    ∀ i, m ≤ i → i < len → (c.setIfInBounds m (.int .i64 (prodW (xs.drop (m + 1)))))[i]? = some (.int .i64 (prodW (xs.drop (i + 1)))) := by
  intro i h1 h2
  by_cases e : i = m
  · subst e
    rw [Array.getElem?_setIfInBounds_self_of_lt hk]
  · rw [Array.getElem?_setIfInBounds_ne (by omega)]
    exact h i (by omega) h2

set_option maxHeartbeats 1000000 in
theorem strides_raw (a : Option Addr) (len cap : Nat) (xs : List Int) (w : World) (hlen : Hid (xs.length = len)) (hn : len ≤ 1048576) (hat : Hid (IntAt w a xs)) :
    Calls Try.prog 10 #[.slice a len cap] w fun e w' => ∃ c : Array Value, e = .returned (.slice (some ⟨w.heap.size + 1, 0, none⟩) len len) ∧
      w' = (w.alloc (.cells #[.slice none 0 0, .int .i64 0, .slice none 0 0, .slice none 0 0, .slice a len cap] 56)).alloc (.cells c 3) ∧ c.size = len ∧ ∀ i, i < len → c[i]? = some (.int .i64 (prodW (xs.drop (i + 1)))) := by
  obtain ⟨i0, hi, hz0, hz1, hz2⟩ := info_parts Try.info3
  have hmk := fun (w : World) => run_make (P := Try.prog) w 22 3 i0 (.int .i64 0) Try.underlying22 hi hz0 .i64 .i64 len len (by omega) (by omega) (by rw [hz2]; omega) (by omega)
  simp only [Int.toNat_natCast, hz1, Nat.mul_one] at hmk
  have hms := size_madeCells (Value.int .i64 0).cells len
  generalize madeCells (Value.int .i64 0).cells len = c0 at hmk hms
  clear hi hz0 hz1 hz2
  go_enter Try.func10, Try.ntmps10
  go_wp2
  clear hmk
  go_loopw [4, 5] (fun v4 v5 wr => ∃ (j : Nat) (c : Array Value), j ≤ len ∧ v5 = .int .i64 ((j : Int) - 1) ∧ v4 = .int .i64 (prodW (xs.drop j)) ∧
      wr = (w.alloc (.cells #[.slice none 0 0, .int .i64 0, .slice none 0 0, .slice none 0 0, .slice a len cap] 56)).alloc (.cells c 3) ∧ c.size = len ∧ ∀ i, j ≤ i → i < len → c[i]? = some (.int .i64 (prodW (xs.drop (i + 1)))))
    (fun _ v5 _ => (intOf v5 + 1).toNat)
  case atStart => exact ⟨len, c0, Nat.le_refl _, rfl, by rw [List.drop_of_length_le (by rw [hlen.out]; exact Nat.le_refl _), prodW_nil], rfl, hms, fun i h1 h2 => absurd h2 (by omega)⟩
  case round =>
    obtain ⟨j, c, hj, rfl, rfl, rfl, hcs, hall⟩ := hrel
    clear hms
    cases j with
    | zero =>
      go_wp2
      go_ret
      exact ⟨c, rfl, rfl, hcs, fun i hi => hall i (Nat.zero_le _) hi⟩
    | succ m =>
      obtain ⟨b, off, rfl, hb, hc⟩ := hat.out (by rw [hlen.out]; omega)
      have hcm := hc m (by rw [hlen.out]; omega)
      obtain ⟨x, hx⟩ : ∃ x, x = xs.getD m 0 := ⟨_, rfl⟩
      rw [← hx] at hcm
      obtain ⟨v0, hv0⟩ : ∃ v0, c[m]? = some v0 := ⟨c[m]'(by omega), Array.getElem?_eq_getElem _⟩
      obtain ⟨y, hy⟩ : ∃ y, y = prodW (xs.drop (m + 1)) := ⟨_, rfl⟩
      have HX : Hid (x = xs.getD m 0) := hx
      have HY : Hid (y = prodW (xs.drop (m + 1))) := hy
      have HC : Hid (c.size = len) := hcs
      have HA : Hid (∀ i, m + 1 ≤ i → i < len → c[i]? = some (.int .i64 (prodW (xs.drop (i + 1))))) := hall
      rw [← hy, show ((m + 1 : Nat) : Int) - 1 = (m : Int) by omega]
      have hml : m < len := by omega
      clear hc hx hy hcs hall
      go_wp2
      go_roundw
      case rel => exact ⟨m, _, by omega, rfl, by rw [HX.out, HY.out, ← prodW_drop xs m (by rw [hlen.out]; exact hml)], rfl, by simpa using HC.out, by rw [HY.out]; exact set_left HA.out (by rw [HC.out]; exact hml)⟩
      case measure => simp [intOf]

/-- The strides of xs lie in block g. -/
def StAt (w : World) (g : Nat) (xs : List Int) : Prop := g < w.heap.size ∧ ∀ i, i < xs.length → w.cell? ⟨g, i, none⟩ = some (.int .i64 (prodW (xs.drop (i + 1))))

theorem StAt.carry {w w' : World} {g : Nat} {xs : List Int} (h : StAt w g xs) (hb : Below w.heap.size w w') : StAt w' g xs :=
  ⟨Nat.lt_of_lt_of_le h.1 hb.size, fun i hi => (hb.cell (p := ⟨g, i, none⟩) h.1).trans (h.2 i hi)⟩

theorem strides_any (a : Option Addr) (len cap : Nat) (xs : List Int) (w : World) (hlen : xs.length = len) (hn : len ≤ 1048576) (hat : IntAt w a xs) :
    Calls Try.prog 10 #[.slice a len cap] w fun e w' => ∃ g, e = .returned (.slice (some ⟨g, 0, none⟩) len len) ∧ StAt w' g xs ∧ Below w.heap.size w w' := by
  refine (strides_raw a len cap xs w hlen hn hat).mono ?_
  rintro e w' ⟨c, rfl, rfl, hcs, hall⟩
  refine ⟨w.heap.size + 1, rfl, ⟨by simp, fun i hi => ?_⟩, ((Below.refl _ _).alloc (Nat.le_refl _) _).alloc (by simp) _⟩
  rw [World.cell?_alloc_at _ _ _ _ (by simp)]
  exact hall i (by omega)
end Go.Proofs.Qxb6608540a
