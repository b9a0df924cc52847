/-
  FnStridesConcat at a nil slice; the walk joined.
-/
import Derived.Test.Qxb6608540aConcat
namespace Go.Proofs.Qxb6608540a
open Go.RowKit
set_option linter.unusedVariables false

set_option maxHeartbeats 2000000 in
theorem strides_nil (w : World) :
    Calls Try.prog 10 #[.slice none 0 0] w fun e w' => ∃ g, e = .returned (.slice (some ⟨g, 0, none⟩) 0 0) ∧ Below w.heap.size w w' := by
  refine (strides_any none 0 0 [] w rfl (by omega) (fun h => absurd h (Nat.lt_irrefl _))).mono ?_
  rintro e w' ⟨g, rfl, _, hb⟩
  exact ⟨g, rfl, hb⟩

set_option maxHeartbeats 4000000 in
theorem concat_nil (w : World) :
    Calls Try.prog 3 #[.slice none 0 0, .int .i64 0] w fun e w' => e = .returned (.bool true) ∧ Below w.heap.size w w' := by
  have hneq := fun (w : World) => run_neq_slice_nil_any (P := Try.prog) w 22 3 none 0 0 0 0 Try.underlying22
  go_enter Try.func3, Try.ntmps3
  go_wp2_with (go_at_call 9; go_in)
  refine (strides_nil _).mono ?_
  rintro e w3 ⟨g3, rfl, b3⟩
  go_wp2_with fail
  refine (strides_nil _).mono ?_
  rintro e w4 ⟨g4, rfl, b4⟩
  go_wp2_with fail
  refine (strides_nil _).mono ?_
  rintro e w5 ⟨g5, rfl, b5⟩
  go_wp2
  refine wp_loop_rounds 1 ?_
  rw [rounds_succ]
  go_wp2
  refine wp_loop_rounds 1 ?_
  rw [rounds_succ]
  go_wp2
  refine wp_loop_rounds 1 ?_
  rw [rounds_succ]
  go_wp2
  go_ret
  exact ⟨rfl, (b3.trans (b4.mono b3.size)).trans (b5.mono (by have := b3.size; have := b4.size; omega))⟩

/-- What the frame tells of a slice of ints that came in. -/
theorem intAt_of {w : World} {x : Addr} {len cap : Nat} {zs : List Int} (hl : len ≤ cap) (hz : zs.length = cap)
    (hcell : ∀ i, i < zs.length → w.cell? (x.add i) = some (.int .i64 (zs.getD i 0))) : IntAt w (some x) (zs.take len) := by
  intro h0
  have hlen : (zs.take len).length = len := by simp; omega
  rw [hlen] at h0
  have hb := World.block_lt_of_cell? w _ (hcell 0 (by omega))
  obtain ⟨b, off, spot⟩ := x
  have hspot : spot = none := by simpa [Addr.add] using World.cell?_spot (hcell 0 (by omega))
  subst hspot
  refine ⟨b, off, rfl, by simpa [Addr.add] using hb, fun j hj => ?_⟩
  rw [hlen] at hj
  rw [← Go.WideShapes.add_plain, hcell j (by omega)]
  simp [List.getD, hj]

theorem concat_some (x : Addr) (len cap : Nat) (i : Int) (xs : List Int) (w : World) (hm : len ≤ maxLen) (hlen : xs.length = len) (hat : IntAt w (some x) xs) :
    Calls Try.prog 3 #[.slice (some x) len cap, .int .i64 i] w fun e w' => e = .returned (.bool true) ∧ Below w.heap.size w w' := by
  by_cases h : 131072 < len ∨ i < 0 ∨ (len : Int) < i
  · exact concat_out (some x) len cap i w hm h
  · obtain ⟨cut, rfl⟩ : ∃ n : Nat, i = n := ⟨i.toNat, by omega⟩
    by_cases hc : cut < len
    · exact concat_lt x len cap cut xs w hlen (by omega) hc hat
    · obtain rfl : len = cut := by omega
      exact concat_eq x len cap xs w hlen (by omega) hat

theorem concat_none (i : Int) (w : World) :
    Calls Try.prog 3 #[.slice none 0 0, .int .i64 i] w fun e w' => e = .returned (.bool true) ∧ Below w.heap.size w w' := by
  by_cases h : i = 0
  · subst h
    exact concat_nil w
  · exact concat_out none 0 0 i w (Nat.zero_le _) (by omega)
end Go.Proofs.Qxb6608540a
