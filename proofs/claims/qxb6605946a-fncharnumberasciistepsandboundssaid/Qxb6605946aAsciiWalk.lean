/-
  The walk of FnCharNumberAsciiStepsAndBounds.
-/
import Derived.Test.Qxb6605946aCharNumber
import Derived.OpenShut
namespace Go.Proofs.Qxb6605946a
open Go.RowKit

/-- 'charNumber_any' with its number and its answer as plain letters. -/
theorem charNumber_at (s : ByteArray) (i : Int) (n c : Nat) (w : World) (hi : i = n) (hs : s.size ≤ 1048576) (hn : n ≤ s.size) (hc : Lib.runeCount (s.extract 0 n) = c) :
    Calls Try.prog 21 #[.string s, .int .i64 i] w fun e w' => e = .returned (.int .i64 ((c : Int) + 1)) ∧ Below w.heap.size w w' := by
  subst hi; subst hc
  exact charNumber_any s n w hs hn

theorem ascii_far (s : ByteArray) (i : Int) (w : World) (hs : s.size ≤ maxLen) (h : 1048576 < s.size) :
    Calls Try.prog 7 #[.string s, .int .i64 i] w fun e w' => e = .returned (.bool true) ∧ Below w.heap.size w w' := by
  have hf := fits_ascii s i w hs
  rw [show decide (s.size ≤ 1048576) = false from by simp; omega] at hf
  unfold maxLen at hs
  go_enter Try.func7, Try.ntmps7
  go_wp2_with (go_at_call 23; refine hf.mono ?_; rintro e w' ⟨rfl, rfl⟩)
  go_ret
  exact ⟨rfl, Below.refl _ _⟩

theorem ascii_out (s : ByteArray) (i : Int) (w : World) (hs : s.size ≤ 1048576) (h : i < 0 ∨ (s.size : Int) < i) :
    Calls Try.prog 7 #[.string s, .int .i64 i] w fun e w' => e = .returned (.bool true) ∧ Below w.heap.size w w' := by
  have hf := fits_ascii s i w (by unfold maxLen; omega)
  rw [show decide (s.size ≤ 1048576) = true from by simpa using hs] at hf
  rcases h with h | h
  · go_enter Try.func7, Try.ntmps7
    go_wp2_with (go_at_call 23; refine hf.mono ?_; rintro e w' ⟨rfl, rfl⟩)
    go_ret
    exact ⟨rfl, Below.refl _ _⟩
  · have h0 : ¬ i < 0 := by omega
    go_enter Try.func7, Try.ntmps7
    go_wp2_with (go_at_call 23; refine hf.mono ?_; rintro e w' ⟨rfl, rfl⟩)
    go_ret
    exact ⟨rfl, Below.refl _ _⟩

theorem all_snoc {s : ByteArray} {k : Nat} (h : ∀ j, j < k → (s.get! j).toNat < 128) (hk : k < s.size) (hb : (s[k].toNat : Int) < 128) : ∀ j, j < k + 1 → (s.get! j).toNat < 128 := by
  intro j hj
  by_cases e : j = k
  · subst e
    rw [Runes.get_bang s j hk]
    omega
  · exact h j (by omega)

set_option maxHeartbeats 1000000 in
set_option maxRecDepth 10000 in
theorem ascii_in (s : ByteArray) (n c : Nat) (w : World) (hs : s.size ≤ 1048576) (hn : n ≤ s.size) (H : Hid (Lib.runeCount (s.extract 0 n) = c)) :
    Calls Try.prog 7 #[.string s, .int .i64 n] w fun e w' => e = .returned (.bool true) ∧ Below w.heap.size w w' := by
  have hf := fits_ascii s n w (by unfold maxLen; omega)
  rw [show decide (s.size ≤ 1048576) = true from by simpa using hs] at hf
  have hc1 : c ≤ n := by rw [← H.out]; exact Runes.runeCount_head_le s n hn
  have hc2 : n ≤ 4 * c := by rw [← H.out]; exact Runes.runeCount_head_ge s n hn
  have hz := Runes.size_head s n hn
  have H2 : Hid (Lib.runeCount ((s.extract 0 n).extract 0 n) = c) := by rw [Runes.head_head]; exact H
  go_enter Try.func7, Try.ntmps7
  go_wp2_with (go_at_call 23; refine hf.mono ?_; rintro e w' ⟨rfl, rfl⟩)
  refine (charNumber_at s _ n c _ rfl hs hn H.out).mono ?_
  rintro e w1 ⟨rfl, b1⟩
  go_wp2_with fail
  refine (charNumber_at (s.extract 0 n) _ n c _ rfl (by omega) (by omega) H2.out).mono ?_
  rintro e w2 ⟨rfl, b2⟩
  go_wp2
  have b12 : Below w.heap.size w w2 := b1.trans (b2.mono b1.size)
  clear hf b1 b2 H2
  have H3 : Hid (∀ h : n < s.size, (s[n].toNat : Int) < 128 → Lib.runeCount (s.extract 0 (n + 1)) = c + 1) := by
    intro h hb
    rw [Runes.runeCount_snoc s n h (by rw [Runes.get_bang s n h]; omega), H.out]
  go_loop [6, 7] (fun a i => ∃ k : Nat, k ≤ n ∧ i = .int .i64 k ∧ a = .bool true ∧ ∀ j, j < k → (s.get! j).toNat < 128) (fun _ i => n - (intOf i).toNat)
  case atStart => exact ⟨0, Nat.zero_le _, rfl, rfl, fun j h => absurd h (Nat.not_lt_zero _)⟩
  case round =>
    obtain ⟨k, hk, rfl, rfl, hall⟩ := hrel
    have HA : Hid (∀ j, j < k → (s.get! j).toNat < 128) := hall
    clear hall
    by_cases hlt : k < n
    · have hks : k < s.size := by omega
      go_wp2_with (go_at_call 21; refine (charNumber_at s _ (n + 1) (c + 1) _ (by omega) hs (by omega) (H3.out (by omega) (by assumption))).mono ?_; rintro e w3 ⟨rfl, b3⟩)
      case roundEnd =>
        go_round
        case rel => exact ⟨k + 1, by omega, by go_num, rfl, all_snoc HA.out hks (by assumption)⟩
        case measure => simp [intOf]; omega
      all_goals go_ret
      · exact ⟨rfl, b12.trans (b3.mono b12.size)⟩
      · exact ⟨rfl, b12⟩
      · exact ⟨rfl, b12⟩
    · have hkn : k = n := by omega
      subst hkn
      have hcn : c = k := by rw [← H.out]; exact Runes.runeCount_head_ascii s k hn HA.out
      subst hcn
      go_wp2_with (go_at_call 21; refine (charNumber_at s _ (c + 1) (c + 1) _ (by omega) hs (by omega) (H3.out (by omega) (by assumption))).mono ?_; rintro e w3 ⟨rfl, b3⟩)
      all_goals go_ret
      · exact ⟨rfl, b12.trans (b3.mono b12.size)⟩
      · exact ⟨rfl, b12⟩
      · exact ⟨rfl, b12⟩
end Go.Proofs.Qxb6605946a
