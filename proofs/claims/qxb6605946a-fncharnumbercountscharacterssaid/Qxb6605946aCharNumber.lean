/-
  Walks shared by the two laws on charNumber: utf8.RuneCountInString, (*parser).charNumber, ZZCharNumber, the length guards.
-/
import Derived.Test.Qxb6605946aRows
import Derived.Test.Qxb6605946aRunes
import Derived.WalkKit
import Derived.ProofKit
import Derived.Laws.RangeString
import Derived.Laws.RangeAny
import Derived.LoopTactic
import Derived.Outline
namespace Go.Proofs.Qxb6605946a
open Go.RowKit

set_option maxHeartbeats 1000000 in
/-- utf8.RuneCountInString, at every string. -/
theorem runeCount_any (s : ByteArray) (w : World) (hs : s.size < 9223372036854775807) :
    Calls Try.prog 36 #[.string s] w fun e w' => e = .returned (.int .i64 (Lib.runeCount s)) ∧ ∃ pos, w' = w.iter s pos := by
  go_enter Try.func36, Try.ntmps36
  go_wp2
  go_loopw [2] (fun n w' => ∃ (pos b acc : Nat), w' = w.iter s pos ∧ n = .int .i64 acc ∧ acc + Lib.runeCountFrom s b pos = Lib.runeCount s ∧ s.size ≤ pos + b ∧ acc ≤ pos) (fun _ w' => s.size - w'.iterPos w.heap.size)
  case atStart => exact ⟨0, s.size, 0, rfl, rfl, by simp [Lib.runeCount], by omega, Nat.le_refl _⟩
  case round =>
    obtain ⟨pos, b, acc, rfl, rfl, hc, hb, ha⟩ := hrel
    by_cases hp : pos < s.size
    · have hnx : ∀ ty, (Instr.next (.pointer (some ⟨w.heap.size, 0, none⟩)) true ty).run Try.prog (w.iter s pos) = _ := fun ty => run_next_any w s pos ty hp
      have hwd := Lib.decode_width_pos s pos hp
      go_wp2
      go_roundw
      case rel =>
        cases b with
        | zero => omega
        | succ b =>
          refine ⟨pos + (Utf8.decode s pos).2, b, acc + 1, rfl, by go_num, ?_, by omega, by omega⟩
          rw [← hc]
          simp [Lib.runeCountFrom, hp]
          omega
      case measure =>
        simp
        omega
    · have hnx : ∀ ty, (Instr.next (.pointer (some ⟨w.heap.size, 0, none⟩)) true ty).run Try.prog (w.iter s pos) = _ := fun ty => run_next_end w s pos ty hp
      go_wp2
      go_ret
      rw [Lib.runeCountFrom_end s b pos hp, Nat.add_zero] at hc
      subst hc
      exact ⟨rfl, _, rfl⟩

set_option maxHeartbeats 1000000 in
/-- The head of src up to at, counted, and one more. -/
theorem charNumber_any (s : ByteArray) (n : Nat) (w : World) (hs : s.size ≤ 1048576) (hn : n ≤ s.size) :
    Calls Try.prog 21 #[.string s, .int .i64 n] w fun e w' => e = .returned (.int .i64 (Lib.runeCount (s.extract 0 n) + 1)) ∧ Below w.heap.size w w' := by
  have hc := Runes.runeCount_head_le s n hn
  have hz := Runes.size_head s n hn
  go_enter Try.func21, Try.ntmps21
  go_wp2_with (first | (go_at_call 36; refine (runeCount_any _ _ ?_).mono ?_) | go_in)
  · omega
  · rintro e w1 ⟨rfl, pos, rfl⟩
    go_wp2
    go_ret
    refine ⟨rfl, ?_⟩
    exact ((Below.refl _ _).alloc (Nat.le_refl _) _).alloc (by simp) _

set_option maxHeartbeats 1000000 in
/-- The guard on the total length. -/
theorem fits_ascii (s : ByteArray) (n : Int) (w : World) (hs : s.size ≤ maxLen) :
    Calls Try.prog 23 #[.string s, .int .i64 n] w fun e w' => e = .returned (.bool (decide (s.size ≤ 1048576))) ∧ w = w' := by
  unfold maxLen at hs
  by_cases h : s.size ≤ 1048576
  · go_enter Try.func23, Try.ntmps23
    go_wp2
    go_ret
    exact ⟨by simp [h], rfl⟩
  · go_enter Try.func23, Try.ntmps23
    go_wp2
    go_ret
    exact ⟨by simp [h], rfl⟩

set_option maxHeartbeats 1000000 in
theorem fits_counts (s : ByteArray) (n : Int) (w : World) (hs : s.size ≤ maxLen) :
    Calls Try.prog 20 #[.string s, .int .i64 n] w fun e w' => e = .returned (.bool (decide (s.size ≤ 1048576))) ∧ w = w' := by
  unfold maxLen at hs
  by_cases h : s.size ≤ 1048576
  · go_enter Try.func20, Try.ntmps20
    go_wp2
    go_ret
    exact ⟨by simp [h], rfl⟩
  · go_enter Try.func20, Try.ntmps20
    go_wp2
    go_ret
    exact ⟨by simp [h], rfl⟩
end Go.Proofs.Qxb6605946a
