/-
  Walks of zzInRange and zzDecode: the width that zzDecode gives, one range of lead bytes at a time.
-/
import Derived.Test.Qxb6605946aRows
import Derived.Test.Qxb6605946aRunes
import Derived.WalkKit
import Derived.ProofKit
import Derived.WalkSmall
import Derived.LoopTactic
import Derived.Deep.QuietTactic
import Derived.BigQuiet
namespace Go.Proofs.Qxb6605946a
open Go.RowKit
set_option linter.unusedVariables false

theorem inRange_yes (b lo hi : Int) (w : World) (h1 : lo ≤ b) (h2 : b ≤ hi) :
    Calls Try.prog 37 #[.int .u8 b, .int .u8 lo, .int .u8 hi] w fun e w' => e = .returned (.bool true) ∧ w = w' := by
  go_enter Try.func37, Try.ntmps37
  go_wp2
  go_ret
  exact ⟨by simp, rfl⟩

theorem inRange_no (b lo hi : Int) (w : World) (h : ¬ (lo ≤ b ∧ b ≤ hi)) :
    Calls Try.prog 37 #[.int .u8 b, .int .u8 lo, .int .u8 hi] w fun e w' => e = .returned (.bool false) ∧ w = w' := by
  by_cases h1 : lo ≤ b
  · have h2 : ¬ b ≤ hi := fun x => h ⟨h1, x⟩
    go_enter Try.func37, Try.ntmps37
    go_wp2
    go_ret
    exact ⟨by simp, rfl⟩
  · go_enter Try.func37, Try.ntmps37
    go_wp2
    go_ret
    exact ⟨by simp, rfl⟩

/-- How zzDecode ends: some rune, the width k, nothing old written. -/
def Wide (w : World) (k : Int) (e : Ending) (w' : World) : Prop :=
  (∃ r : Int, e = .returned (.tuple #[.int .i32 r, .int .i64 k])) ∧ Below w.heap.size w w'

set_option maxHeartbeats 1000000 in
set_option maxRecDepth 10000 in
theorem dec_A (s : ByteArray) (i : Nat) (w : World) (hs : s.size ≤ 1048576) (h : i < s.size) (b0 : Int) (hb : (s[i].toNat : Int) = b0) (h1 : 0 ≤ b0) (h2 : b0 ≤ 127) :
    Calls Try.prog 31 #[.string s, .int .i64 i] w fun e w' => Wide w 1 e w' := by
  go_enter Try.func31, Try.ntmps31
  go_wp2
  go_ret2
  exact ⟨⟨_, rfl⟩, Below.refl _ _⟩

set_option maxHeartbeats 1000000 in
set_option maxRecDepth 10000 in
theorem dec_B (s : ByteArray) (i : Nat) (w : World) (hs : s.size ≤ 1048576) (h : i < s.size) (b0 : Int) (hb : (s[i].toNat : Int) = b0) (h1 : 128 ≤ b0) (h2 : b0 ≤ 193) :
    Calls Try.prog 31 #[.string s, .int .i64 i] w fun e w' => Wide w 1 e w' := by
  go_enter Try.func31, Try.ntmps31
  go_wp2
  go_ret2
  exact ⟨⟨_, rfl⟩, Below.refl _ _⟩

set_option maxHeartbeats 1000000 in
set_option maxRecDepth 10000 in
theorem dec_Z (s : ByteArray) (i : Nat) (w : World) (hs : s.size ≤ 1048576) (h : i < s.size) (b0 : Int) (hb : (s[i].toNat : Int) = b0) (h1 : 245 ≤ b0) (h2 : b0 ≤ 255) :
    Calls Try.prog 31 #[.string s, .int .i64 i] w fun e w' => Wide w 1 e w' := by
  go_enter Try.func31, Try.ntmps31
  go_wp2
  go_ret2
  exact ⟨⟨_, rfl⟩, Below.refl _ _⟩

set_option maxHeartbeats 1000000 in
set_option maxRecDepth 10000 in
theorem dec_C_short (s : ByteArray) (i : Nat) (w : World) (hs : s.size ≤ 1048576) (h : i < s.size) (b0 : Int) (hb : (s[i].toNat : Int) = b0) (h1 : 194 ≤ b0) (h2 : b0 ≤ 223)
    (hn : s.size < i + 2) :
    Calls Try.prog 31 #[.string s, .int .i64 i] w fun e w' => Wide w 1 e w' := by
  go_enter Try.func31, Try.ntmps31
  go_wp2
  go_ret2
  exact ⟨⟨_, rfl⟩, Below.refl _ _⟩

set_option maxHeartbeats 1000000 in
set_option maxRecDepth 10000 in
theorem dec_C_no (s : ByteArray) (i : Nat) (w : World) (hs : s.size ≤ 1048576) (h : i < s.size) (b0 : Int) (hb : (s[i].toNat : Int) = b0) (h1 : 194 ≤ b0) (h2 : b0 ≤ 223)
    (hn : i + 1 < s.size)
    (n1 : ¬ (128 ≤ (s[i+1].toNat : Int) ∧ (s[i+1].toNat : Int) ≤ 191)) :
    Calls Try.prog 31 #[.string s, .int .i64 i] w fun e w' => Wide w 1 e w' := by
  go_enter Try.func31, Try.ntmps31
  go_wp2_with (go_at_call 37; first | (refine (inRange_yes _ _ _ _ (by omega) (by omega)).mono ?_; rintro e w' ⟨rfl, rfl⟩) | (refine (inRange_no _ _ _ _ (by omega)).mono ?_; rintro e w' ⟨rfl, rfl⟩))
  go_ret2
  exact ⟨⟨_, rfl⟩, Below.refl _ _⟩

set_option maxHeartbeats 1000000 in
set_option maxRecDepth 10000 in
theorem dec_C_yes (s : ByteArray) (i : Nat) (w : World) (hs : s.size ≤ 1048576) (h : i < s.size) (b0 : Int) (hb : (s[i].toNat : Int) = b0) (h1 : 194 ≤ b0) (h2 : b0 ≤ 223)
    (hn : i + 1 < s.size)
    (l1 : 128 ≤ (s[i+1].toNat : Int)) (u1 : (s[i+1].toNat : Int) ≤ 191) :
    Calls Try.prog 31 #[.string s, .int .i64 i] w fun e w' => Wide w 2 e w' := by
  go_enter Try.func31, Try.ntmps31
  go_wp2_with (go_at_call 37; first | (refine (inRange_yes _ _ _ _ (by omega) (by omega)).mono ?_; rintro e w' ⟨rfl, rfl⟩) | (refine (inRange_no _ _ _ _ (by omega)).mono ?_; rintro e w' ⟨rfl, rfl⟩))
  go_ret2
  exact ⟨⟨_, rfl⟩, Below.refl _ _⟩

set_option maxHeartbeats 1000000 in
set_option maxRecDepth 10000 in
theorem dec_E0_short (s : ByteArray) (i : Nat) (w : World) (hs : s.size ≤ 1048576) (h : i < s.size) (b0 : Int) (hb : (s[i].toNat : Int) = b0) (h1 : 224 ≤ b0) (h2 : b0 ≤ 224)
    (hn : s.size < i + 3) :
    Calls Try.prog 31 #[.string s, .int .i64 i] w fun e w' => Wide w 1 e w' := by
  go_enter Try.func31, Try.ntmps31
  go_wp2
  go_ret2
  exact ⟨⟨_, rfl⟩, Below.refl _ _⟩

set_option maxHeartbeats 1000000 in
set_option maxRecDepth 10000 in
theorem dec_E0_no1 (s : ByteArray) (i : Nat) (w : World) (hs : s.size ≤ 1048576) (h : i < s.size) (b0 : Int) (hb : (s[i].toNat : Int) = b0) (h1 : 224 ≤ b0) (h2 : b0 ≤ 224)
    (hn : i + 2 < s.size)
    (n1 : ¬ (160 ≤ (s[i+1].toNat : Int) ∧ (s[i+1].toNat : Int) ≤ 191)) :
    Calls Try.prog 31 #[.string s, .int .i64 i] w fun e w' => Wide w 1 e w' := by
  go_enter Try.func31, Try.ntmps31
  go_wp2_with (go_at_call 37; first | (refine (inRange_yes _ _ _ _ (by omega) (by omega)).mono ?_; rintro e w' ⟨rfl, rfl⟩) | (refine (inRange_no _ _ _ _ (by omega)).mono ?_; rintro e w' ⟨rfl, rfl⟩))
  go_ret2
  exact ⟨⟨_, rfl⟩, Below.refl _ _⟩

set_option maxHeartbeats 1000000 in
set_option maxRecDepth 10000 in
theorem dec_E0_no2 (s : ByteArray) (i : Nat) (w : World) (hs : s.size ≤ 1048576) (h : i < s.size) (b0 : Int) (hb : (s[i].toNat : Int) = b0) (h1 : 224 ≤ b0) (h2 : b0 ≤ 224)
    (hn : i + 2 < s.size)
    (l1 : 160 ≤ (s[i+1].toNat : Int)) (u1 : (s[i+1].toNat : Int) ≤ 191)
    (n2 : ¬ (128 ≤ (s[i+2].toNat : Int) ∧ (s[i+2].toNat : Int) ≤ 191)) :
    Calls Try.prog 31 #[.string s, .int .i64 i] w fun e w' => Wide w 1 e w' := by
  go_enter Try.func31, Try.ntmps31
  go_wp2_with (go_at_call 37; first | (refine (inRange_yes _ _ _ _ (by omega) (by omega)).mono ?_; rintro e w' ⟨rfl, rfl⟩) | (refine (inRange_no _ _ _ _ (by omega)).mono ?_; rintro e w' ⟨rfl, rfl⟩))
  go_ret2
  exact ⟨⟨_, rfl⟩, Below.refl _ _⟩

set_option maxHeartbeats 1000000 in
set_option maxRecDepth 10000 in
theorem dec_E0_yes (s : ByteArray) (i : Nat) (w : World) (hs : s.size ≤ 1048576) (h : i < s.size) (b0 : Int) (hb : (s[i].toNat : Int) = b0) (h1 : 224 ≤ b0) (h2 : b0 ≤ 224)
    (hn : i + 2 < s.size)
    (l1 : 160 ≤ (s[i+1].toNat : Int)) (u1 : (s[i+1].toNat : Int) ≤ 191)
    (l2 : 128 ≤ (s[i+2].toNat : Int)) (u2 : (s[i+2].toNat : Int) ≤ 191) :
    Calls Try.prog 31 #[.string s, .int .i64 i] w fun e w' => Wide w 3 e w' := by
  go_enter Try.func31, Try.ntmps31
  go_wp2_with (go_at_call 37; first | (refine (inRange_yes _ _ _ _ (by omega) (by omega)).mono ?_; rintro e w' ⟨rfl, rfl⟩) | (refine (inRange_no _ _ _ _ (by omega)).mono ?_; rintro e w' ⟨rfl, rfl⟩))
  have hi1 : (i : Int) + 1 < (s.size : Int) := by omega
  have hi2 : (i : Int) + 2 < (s.size : Int) := by omega
  go_quiet (fail)
  go_wp2
  go_ret2
  exact ⟨⟨_, rfl⟩, below_drewN (Below.refl _ _) _⟩

set_option maxHeartbeats 1000000 in
set_option maxRecDepth 10000 in
theorem dec_E1_short (s : ByteArray) (i : Nat) (w : World) (hs : s.size ≤ 1048576) (h : i < s.size) (b0 : Int) (hb : (s[i].toNat : Int) = b0) (h1 : 225 ≤ b0) (h2 : b0 ≤ 236)
    (hn : s.size < i + 3) :
    Calls Try.prog 31 #[.string s, .int .i64 i] w fun e w' => Wide w 1 e w' := by
  go_enter Try.func31, Try.ntmps31
  go_wp2
  go_ret2
  exact ⟨⟨_, rfl⟩, Below.refl _ _⟩

set_option maxHeartbeats 1000000 in
set_option maxRecDepth 10000 in
theorem dec_E1_no1 (s : ByteArray) (i : Nat) (w : World) (hs : s.size ≤ 1048576) (h : i < s.size) (b0 : Int) (hb : (s[i].toNat : Int) = b0) (h1 : 225 ≤ b0) (h2 : b0 ≤ 236)
    (hn : i + 2 < s.size)
    (n1 : ¬ (128 ≤ (s[i+1].toNat : Int) ∧ (s[i+1].toNat : Int) ≤ 191)) :
    Calls Try.prog 31 #[.string s, .int .i64 i] w fun e w' => Wide w 1 e w' := by
  go_enter Try.func31, Try.ntmps31
  go_wp2_with (go_at_call 37; first | (refine (inRange_yes _ _ _ _ (by omega) (by omega)).mono ?_; rintro e w' ⟨rfl, rfl⟩) | (refine (inRange_no _ _ _ _ (by omega)).mono ?_; rintro e w' ⟨rfl, rfl⟩))
  go_ret2
  exact ⟨⟨_, rfl⟩, Below.refl _ _⟩

set_option maxHeartbeats 1000000 in
set_option maxRecDepth 10000 in
theorem dec_E1_no2 (s : ByteArray) (i : Nat) (w : World) (hs : s.size ≤ 1048576) (h : i < s.size) (b0 : Int) (hb : (s[i].toNat : Int) = b0) (h1 : 225 ≤ b0) (h2 : b0 ≤ 236)
    (hn : i + 2 < s.size)
    (l1 : 128 ≤ (s[i+1].toNat : Int)) (u1 : (s[i+1].toNat : Int) ≤ 191)
    (n2 : ¬ (128 ≤ (s[i+2].toNat : Int) ∧ (s[i+2].toNat : Int) ≤ 191)) :
    Calls Try.prog 31 #[.string s, .int .i64 i] w fun e w' => Wide w 1 e w' := by
  go_enter Try.func31, Try.ntmps31
  go_wp2_with (go_at_call 37; first | (refine (inRange_yes _ _ _ _ (by omega) (by omega)).mono ?_; rintro e w' ⟨rfl, rfl⟩) | (refine (inRange_no _ _ _ _ (by omega)).mono ?_; rintro e w' ⟨rfl, rfl⟩))
  go_ret2
  exact ⟨⟨_, rfl⟩, Below.refl _ _⟩

set_option maxHeartbeats 1000000 in
set_option maxRecDepth 10000 in
theorem dec_E1_yes (s : ByteArray) (i : Nat) (w : World) (hs : s.size ≤ 1048576) (h : i < s.size) (b0 : Int) (hb : (s[i].toNat : Int) = b0) (h1 : 225 ≤ b0) (h2 : b0 ≤ 236)
    (hn : i + 2 < s.size)
    (l1 : 128 ≤ (s[i+1].toNat : Int)) (u1 : (s[i+1].toNat : Int) ≤ 191)
    (l2 : 128 ≤ (s[i+2].toNat : Int)) (u2 : (s[i+2].toNat : Int) ≤ 191) :
    Calls Try.prog 31 #[.string s, .int .i64 i] w fun e w' => Wide w 3 e w' := by
  go_enter Try.func31, Try.ntmps31
  go_wp2_with (go_at_call 37; first | (refine (inRange_yes _ _ _ _ (by omega) (by omega)).mono ?_; rintro e w' ⟨rfl, rfl⟩) | (refine (inRange_no _ _ _ _ (by omega)).mono ?_; rintro e w' ⟨rfl, rfl⟩))
  have hi1 : (i : Int) + 1 < (s.size : Int) := by omega
  have hi2 : (i : Int) + 2 < (s.size : Int) := by omega
  go_quiet (fail)
  go_wp2
  go_ret2
  exact ⟨⟨_, rfl⟩, below_drewN (Below.refl _ _) _⟩

set_option maxHeartbeats 1000000 in
set_option maxRecDepth 10000 in
theorem dec_ED_short (s : ByteArray) (i : Nat) (w : World) (hs : s.size ≤ 1048576) (h : i < s.size) (b0 : Int) (hb : (s[i].toNat : Int) = b0) (h1 : 237 ≤ b0) (h2 : b0 ≤ 237)
    (hn : s.size < i + 3) :
    Calls Try.prog 31 #[.string s, .int .i64 i] w fun e w' => Wide w 1 e w' := by
  go_enter Try.func31, Try.ntmps31
  go_wp2
  go_ret2
  exact ⟨⟨_, rfl⟩, Below.refl _ _⟩

set_option maxHeartbeats 1000000 in
set_option maxRecDepth 10000 in
theorem dec_ED_no1 (s : ByteArray) (i : Nat) (w : World) (hs : s.size ≤ 1048576) (h : i < s.size) (b0 : Int) (hb : (s[i].toNat : Int) = b0) (h1 : 237 ≤ b0) (h2 : b0 ≤ 237)
    (hn : i + 2 < s.size)
    (n1 : ¬ (128 ≤ (s[i+1].toNat : Int) ∧ (s[i+1].toNat : Int) ≤ 159)) :
    Calls Try.prog 31 #[.string s, .int .i64 i] w fun e w' => Wide w 1 e w' := by
  go_enter Try.func31, Try.ntmps31
  go_wp2_with (go_at_call 37; first | (refine (inRange_yes _ _ _ _ (by omega) (by omega)).mono ?_; rintro e w' ⟨rfl, rfl⟩) | (refine (inRange_no _ _ _ _ (by omega)).mono ?_; rintro e w' ⟨rfl, rfl⟩))
  go_ret2
  exact ⟨⟨_, rfl⟩, Below.refl _ _⟩

set_option maxHeartbeats 1000000 in
set_option maxRecDepth 10000 in
theorem dec_ED_no2 (s : ByteArray) (i : Nat) (w : World) (hs : s.size ≤ 1048576) (h : i < s.size) (b0 : Int) (hb : (s[i].toNat : Int) = b0) (h1 : 237 ≤ b0) (h2 : b0 ≤ 237)
    (hn : i + 2 < s.size)
    (l1 : 128 ≤ (s[i+1].toNat : Int)) (u1 : (s[i+1].toNat : Int) ≤ 159)
    (n2 : ¬ (128 ≤ (s[i+2].toNat : Int) ∧ (s[i+2].toNat : Int) ≤ 191)) :
    Calls Try.prog 31 #[.string s, .int .i64 i] w fun e w' => Wide w 1 e w' := by
  go_enter Try.func31, Try.ntmps31
  go_wp2_with (go_at_call 37; first | (refine (inRange_yes _ _ _ _ (by omega) (by omega)).mono ?_; rintro e w' ⟨rfl, rfl⟩) | (refine (inRange_no _ _ _ _ (by omega)).mono ?_; rintro e w' ⟨rfl, rfl⟩))
  go_ret2
  exact ⟨⟨_, rfl⟩, Below.refl _ _⟩

set_option maxHeartbeats 1000000 in
set_option maxRecDepth 10000 in
theorem dec_ED_yes (s : ByteArray) (i : Nat) (w : World) (hs : s.size ≤ 1048576) (h : i < s.size) (b0 : Int) (hb : (s[i].toNat : Int) = b0) (h1 : 237 ≤ b0) (h2 : b0 ≤ 237)
    (hn : i + 2 < s.size)
    (l1 : 128 ≤ (s[i+1].toNat : Int)) (u1 : (s[i+1].toNat : Int) ≤ 159)
    (l2 : 128 ≤ (s[i+2].toNat : Int)) (u2 : (s[i+2].toNat : Int) ≤ 191) :
    Calls Try.prog 31 #[.string s, .int .i64 i] w fun e w' => Wide w 3 e w' := by
  go_enter Try.func31, Try.ntmps31
  go_wp2_with (go_at_call 37; first | (refine (inRange_yes _ _ _ _ (by omega) (by omega)).mono ?_; rintro e w' ⟨rfl, rfl⟩) | (refine (inRange_no _ _ _ _ (by omega)).mono ?_; rintro e w' ⟨rfl, rfl⟩))
  have hi1 : (i : Int) + 1 < (s.size : Int) := by omega
  have hi2 : (i : Int) + 2 < (s.size : Int) := by omega
  go_quiet (fail)
  go_wp2
  go_ret2
  exact ⟨⟨_, rfl⟩, below_drewN (Below.refl _ _) _⟩

set_option maxHeartbeats 1000000 in
set_option maxRecDepth 10000 in
theorem dec_EE_short (s : ByteArray) (i : Nat) (w : World) (hs : s.size ≤ 1048576) (h : i < s.size) (b0 : Int) (hb : (s[i].toNat : Int) = b0) (h1 : 238 ≤ b0) (h2 : b0 ≤ 239)
    (hn : s.size < i + 3) :
    Calls Try.prog 31 #[.string s, .int .i64 i] w fun e w' => Wide w 1 e w' := by
  go_enter Try.func31, Try.ntmps31
  go_wp2
  go_ret2
  exact ⟨⟨_, rfl⟩, Below.refl _ _⟩

set_option maxHeartbeats 1000000 in
set_option maxRecDepth 10000 in
theorem dec_EE_no1 (s : ByteArray) (i : Nat) (w : World) (hs : s.size ≤ 1048576) (h : i < s.size) (b0 : Int) (hb : (s[i].toNat : Int) = b0) (h1 : 238 ≤ b0) (h2 : b0 ≤ 239)
    (hn : i + 2 < s.size)
    (n1 : ¬ (128 ≤ (s[i+1].toNat : Int) ∧ (s[i+1].toNat : Int) ≤ 191)) :
    Calls Try.prog 31 #[.string s, .int .i64 i] w fun e w' => Wide w 1 e w' := by
  go_enter Try.func31, Try.ntmps31
  go_wp2_with (go_at_call 37; first | (refine (inRange_yes _ _ _ _ (by omega) (by omega)).mono ?_; rintro e w' ⟨rfl, rfl⟩) | (refine (inRange_no _ _ _ _ (by omega)).mono ?_; rintro e w' ⟨rfl, rfl⟩))
  go_ret2
  exact ⟨⟨_, rfl⟩, Below.refl _ _⟩

set_option maxHeartbeats 1000000 in
set_option maxRecDepth 10000 in
theorem dec_EE_no2 (s : ByteArray) (i : Nat) (w : World) (hs : s.size ≤ 1048576) (h : i < s.size) (b0 : Int) (hb : (s[i].toNat : Int) = b0) (h1 : 238 ≤ b0) (h2 : b0 ≤ 239)
    (hn : i + 2 < s.size)
    (l1 : 128 ≤ (s[i+1].toNat : Int)) (u1 : (s[i+1].toNat : Int) ≤ 191)
    (n2 : ¬ (128 ≤ (s[i+2].toNat : Int) ∧ (s[i+2].toNat : Int) ≤ 191)) :
    Calls Try.prog 31 #[.string s, .int .i64 i] w fun e w' => Wide w 1 e w' := by
  go_enter Try.func31, Try.ntmps31
  go_wp2_with (go_at_call 37; first | (refine (inRange_yes _ _ _ _ (by omega) (by omega)).mono ?_; rintro e w' ⟨rfl, rfl⟩) | (refine (inRange_no _ _ _ _ (by omega)).mono ?_; rintro e w' ⟨rfl, rfl⟩))
  go_ret2
  exact ⟨⟨_, rfl⟩, Below.refl _ _⟩

set_option maxHeartbeats 1000000 in
set_option maxRecDepth 10000 in
theorem dec_EE_yes (s : ByteArray) (i : Nat) (w : World) (hs : s.size ≤ 1048576) (h : i < s.size) (b0 : Int) (hb : (s[i].toNat : Int) = b0) (h1 : 238 ≤ b0) (h2 : b0 ≤ 239)
    (hn : i + 2 < s.size)
    (l1 : 128 ≤ (s[i+1].toNat : Int)) (u1 : (s[i+1].toNat : Int) ≤ 191)
    (l2 : 128 ≤ (s[i+2].toNat : Int)) (u2 : (s[i+2].toNat : Int) ≤ 191) :
    Calls Try.prog 31 #[.string s, .int .i64 i] w fun e w' => Wide w 3 e w' := by
  go_enter Try.func31, Try.ntmps31
  go_wp2_with (go_at_call 37; first | (refine (inRange_yes _ _ _ _ (by omega) (by omega)).mono ?_; rintro e w' ⟨rfl, rfl⟩) | (refine (inRange_no _ _ _ _ (by omega)).mono ?_; rintro e w' ⟨rfl, rfl⟩))
  have hi1 : (i : Int) + 1 < (s.size : Int) := by omega
  have hi2 : (i : Int) + 2 < (s.size : Int) := by omega
  go_quiet (fail)
  go_wp2
  go_ret2
  exact ⟨⟨_, rfl⟩, below_drewN (Below.refl _ _) _⟩

set_option maxHeartbeats 1000000 in
set_option maxRecDepth 10000 in
theorem dec_F0_short (s : ByteArray) (i : Nat) (w : World) (hs : s.size ≤ 1048576) (h : i < s.size) (b0 : Int) (hb : (s[i].toNat : Int) = b0) (h1 : 240 ≤ b0) (h2 : b0 ≤ 240)
    (hn : s.size < i + 4) :
    Calls Try.prog 31 #[.string s, .int .i64 i] w fun e w' => Wide w 1 e w' := by
  go_enter Try.func31, Try.ntmps31
  go_wp2
  go_ret2
  exact ⟨⟨_, rfl⟩, Below.refl _ _⟩

set_option maxHeartbeats 1000000 in
set_option maxRecDepth 10000 in
theorem dec_F0_no1 (s : ByteArray) (i : Nat) (w : World) (hs : s.size ≤ 1048576) (h : i < s.size) (b0 : Int) (hb : (s[i].toNat : Int) = b0) (h1 : 240 ≤ b0) (h2 : b0 ≤ 240)
    (hn : i + 3 < s.size)
    (n1 : ¬ (144 ≤ (s[i+1].toNat : Int) ∧ (s[i+1].toNat : Int) ≤ 191)) :
    Calls Try.prog 31 #[.string s, .int .i64 i] w fun e w' => Wide w 1 e w' := by
  go_enter Try.func31, Try.ntmps31
  go_wp2_with (go_at_call 37; first | (refine (inRange_yes _ _ _ _ (by omega) (by omega)).mono ?_; rintro e w' ⟨rfl, rfl⟩) | (refine (inRange_no _ _ _ _ (by omega)).mono ?_; rintro e w' ⟨rfl, rfl⟩))
  go_ret2
  exact ⟨⟨_, rfl⟩, Below.refl _ _⟩

set_option maxHeartbeats 1000000 in
set_option maxRecDepth 10000 in
theorem dec_F0_no2 (s : ByteArray) (i : Nat) (w : World) (hs : s.size ≤ 1048576) (h : i < s.size) (b0 : Int) (hb : (s[i].toNat : Int) = b0) (h1 : 240 ≤ b0) (h2 : b0 ≤ 240)
    (hn : i + 3 < s.size)
    (l1 : 144 ≤ (s[i+1].toNat : Int)) (u1 : (s[i+1].toNat : Int) ≤ 191)
    (n2 : ¬ (128 ≤ (s[i+2].toNat : Int) ∧ (s[i+2].toNat : Int) ≤ 191)) :
    Calls Try.prog 31 #[.string s, .int .i64 i] w fun e w' => Wide w 1 e w' := by
  go_enter Try.func31, Try.ntmps31
  go_wp2_with (go_at_call 37; first | (refine (inRange_yes _ _ _ _ (by omega) (by omega)).mono ?_; rintro e w' ⟨rfl, rfl⟩) | (refine (inRange_no _ _ _ _ (by omega)).mono ?_; rintro e w' ⟨rfl, rfl⟩))
  go_ret2
  exact ⟨⟨_, rfl⟩, Below.refl _ _⟩

set_option maxHeartbeats 1000000 in
set_option maxRecDepth 10000 in
theorem dec_F0_no3 (s : ByteArray) (i : Nat) (w : World) (hs : s.size ≤ 1048576) (h : i < s.size) (b0 : Int) (hb : (s[i].toNat : Int) = b0) (h1 : 240 ≤ b0) (h2 : b0 ≤ 240)
    (hn : i + 3 < s.size)
    (l1 : 144 ≤ (s[i+1].toNat : Int)) (u1 : (s[i+1].toNat : Int) ≤ 191)
    (l2 : 128 ≤ (s[i+2].toNat : Int)) (u2 : (s[i+2].toNat : Int) ≤ 191)
    (n3 : ¬ (128 ≤ (s[i+3].toNat : Int) ∧ (s[i+3].toNat : Int) ≤ 191)) :
    Calls Try.prog 31 #[.string s, .int .i64 i] w fun e w' => Wide w 1 e w' := by
  go_enter Try.func31, Try.ntmps31
  go_wp2_with (go_at_call 37; first | (refine (inRange_yes _ _ _ _ (by omega) (by omega)).mono ?_; rintro e w' ⟨rfl, rfl⟩) | (refine (inRange_no _ _ _ _ (by omega)).mono ?_; rintro e w' ⟨rfl, rfl⟩))
  go_ret2
  exact ⟨⟨_, rfl⟩, Below.refl _ _⟩

set_option maxHeartbeats 1000000 in
set_option maxRecDepth 10000 in
theorem dec_F0_yes (s : ByteArray) (i : Nat) (w : World) (hs : s.size ≤ 1048576) (h : i < s.size) (b0 : Int) (hb : (s[i].toNat : Int) = b0) (h1 : 240 ≤ b0) (h2 : b0 ≤ 240)
    (hn : i + 3 < s.size)
    (l1 : 144 ≤ (s[i+1].toNat : Int)) (u1 : (s[i+1].toNat : Int) ≤ 191)
    (l2 : 128 ≤ (s[i+2].toNat : Int)) (u2 : (s[i+2].toNat : Int) ≤ 191)
    (l3 : 128 ≤ (s[i+3].toNat : Int)) (u3 : (s[i+3].toNat : Int) ≤ 191) :
    Calls Try.prog 31 #[.string s, .int .i64 i] w fun e w' => Wide w 4 e w' := by
  go_enter Try.func31, Try.ntmps31
  go_wp2_with (go_at_call 37; first | (refine (inRange_yes _ _ _ _ (by omega) (by omega)).mono ?_; rintro e w' ⟨rfl, rfl⟩) | (refine (inRange_no _ _ _ _ (by omega)).mono ?_; rintro e w' ⟨rfl, rfl⟩))
  have hi1 : (i : Int) + 1 < (s.size : Int) := by omega
  have hi2 : (i : Int) + 2 < (s.size : Int) := by omega
  have hi3 : (i : Int) + 3 < (s.size : Int) := by omega
  go_quiet (fail)
  go_wp2
  go_ret2
  exact ⟨⟨_, rfl⟩, below_drewN (Below.refl _ _) _⟩

set_option maxHeartbeats 1000000 in
set_option maxRecDepth 10000 in
theorem dec_F1_short (s : ByteArray) (i : Nat) (w : World) (hs : s.size ≤ 1048576) (h : i < s.size) (b0 : Int) (hb : (s[i].toNat : Int) = b0) (h1 : 241 ≤ b0) (h2 : b0 ≤ 243)
    (hn : s.size < i + 4) :
    Calls Try.prog 31 #[.string s, .int .i64 i] w fun e w' => Wide w 1 e w' := by
  go_enter Try.func31, Try.ntmps31
  go_wp2
  go_ret2
  exact ⟨⟨_, rfl⟩, Below.refl _ _⟩

set_option maxHeartbeats 1000000 in
set_option maxRecDepth 10000 in
theorem dec_F1_no1 (s : ByteArray) (i : Nat) (w : World) (hs : s.size ≤ 1048576) (h : i < s.size) (b0 : Int) (hb : (s[i].toNat : Int) = b0) (h1 : 241 ≤ b0) (h2 : b0 ≤ 243)
    (hn : i + 3 < s.size)
    (n1 : ¬ (128 ≤ (s[i+1].toNat : Int) ∧ (s[i+1].toNat : Int) ≤ 191)) :
    Calls Try.prog 31 #[.string s, .int .i64 i] w fun e w' => Wide w 1 e w' := by
  go_enter Try.func31, Try.ntmps31
  go_wp2_with (go_at_call 37; first | (refine (inRange_yes _ _ _ _ (by omega) (by omega)).mono ?_; rintro e w' ⟨rfl, rfl⟩) | (refine (inRange_no _ _ _ _ (by omega)).mono ?_; rintro e w' ⟨rfl, rfl⟩))
  go_ret2
  exact ⟨⟨_, rfl⟩, Below.refl _ _⟩

set_option maxHeartbeats 1000000 in
set_option maxRecDepth 10000 in
theorem dec_F1_no2 (s : ByteArray) (i : Nat) (w : World) (hs : s.size ≤ 1048576) (h : i < s.size) (b0 : Int) (hb : (s[i].toNat : Int) = b0) (h1 : 241 ≤ b0) (h2 : b0 ≤ 243)
    (hn : i + 3 < s.size)
    (l1 : 128 ≤ (s[i+1].toNat : Int)) (u1 : (s[i+1].toNat : Int) ≤ 191)
    (n2 : ¬ (128 ≤ (s[i+2].toNat : Int) ∧ (s[i+2].toNat : Int) ≤ 191)) :
    Calls Try.prog 31 #[.string s, .int .i64 i] w fun e w' => Wide w 1 e w' := by
  go_enter Try.func31, Try.ntmps31
  go_wp2_with (go_at_call 37; first | (refine (inRange_yes _ _ _ _ (by omega) (by omega)).mono ?_; rintro e w' ⟨rfl, rfl⟩) | (refine (inRange_no _ _ _ _ (by omega)).mono ?_; rintro e w' ⟨rfl, rfl⟩))
  go_ret2
  exact ⟨⟨_, rfl⟩, Below.refl _ _⟩

set_option maxHeartbeats 1000000 in
set_option maxRecDepth 10000 in
theorem dec_F1_no3 (s : ByteArray) (i : Nat) (w : World) (hs : s.size ≤ 1048576) (h : i < s.size) (b0 : Int) (hb : (s[i].toNat : Int) = b0) (h1 : 241 ≤ b0) (h2 : b0 ≤ 243)
    (hn : i + 3 < s.size)
    (l1 : 128 ≤ (s[i+1].toNat : Int)) (u1 : (s[i+1].toNat : Int) ≤ 191)
    (l2 : 128 ≤ (s[i+2].toNat : Int)) (u2 : (s[i+2].toNat : Int) ≤ 191)
    (n3 : ¬ (128 ≤ (s[i+3].toNat : Int) ∧ (s[i+3].toNat : Int) ≤ 191)) :
    Calls Try.prog 31 #[.string s, .int .i64 i] w fun e w' => Wide w 1 e w' := by
  go_enter Try.func31, Try.ntmps31
  go_wp2_with (go_at_call 37; first | (refine (inRange_yes _ _ _ _ (by omega) (by omega)).mono ?_; rintro e w' ⟨rfl, rfl⟩) | (refine (inRange_no _ _ _ _ (by omega)).mono ?_; rintro e w' ⟨rfl, rfl⟩))
  go_ret2
  exact ⟨⟨_, rfl⟩, Below.refl _ _⟩

set_option maxHeartbeats 1000000 in
set_option maxRecDepth 10000 in
theorem dec_F1_yes (s : ByteArray) (i : Nat) (w : World) (hs : s.size ≤ 1048576) (h : i < s.size) (b0 : Int) (hb : (s[i].toNat : Int) = b0) (h1 : 241 ≤ b0) (h2 : b0 ≤ 243)
    (hn : i + 3 < s.size)
    (l1 : 128 ≤ (s[i+1].toNat : Int)) (u1 : (s[i+1].toNat : Int) ≤ 191)
    (l2 : 128 ≤ (s[i+2].toNat : Int)) (u2 : (s[i+2].toNat : Int) ≤ 191)
    (l3 : 128 ≤ (s[i+3].toNat : Int)) (u3 : (s[i+3].toNat : Int) ≤ 191) :
    Calls Try.prog 31 #[.string s, .int .i64 i] w fun e w' => Wide w 4 e w' := by
  go_enter Try.func31, Try.ntmps31
  go_wp2_with (go_at_call 37; first | (refine (inRange_yes _ _ _ _ (by omega) (by omega)).mono ?_; rintro e w' ⟨rfl, rfl⟩) | (refine (inRange_no _ _ _ _ (by omega)).mono ?_; rintro e w' ⟨rfl, rfl⟩))
  have hi1 : (i : Int) + 1 < (s.size : Int) := by omega
  have hi2 : (i : Int) + 2 < (s.size : Int) := by omega
  have hi3 : (i : Int) + 3 < (s.size : Int) := by omega
  go_quiet (fail)
  go_wp2
  go_ret2
  exact ⟨⟨_, rfl⟩, below_drewN (Below.refl _ _) _⟩

set_option maxHeartbeats 1000000 in
set_option maxRecDepth 10000 in
theorem dec_F4_short (s : ByteArray) (i : Nat) (w : World) (hs : s.size ≤ 1048576) (h : i < s.size) (b0 : Int) (hb : (s[i].toNat : Int) = b0) (h1 : 244 ≤ b0) (h2 : b0 ≤ 244)
    (hn : s.size < i + 4) :
    Calls Try.prog 31 #[.string s, .int .i64 i] w fun e w' => Wide w 1 e w' := by
  go_enter Try.func31, Try.ntmps31
  go_wp2
  go_ret2
  exact ⟨⟨_, rfl⟩, Below.refl _ _⟩

set_option maxHeartbeats 1000000 in
set_option maxRecDepth 10000 in
theorem dec_F4_no1 (s : ByteArray) (i : Nat) (w : World) (hs : s.size ≤ 1048576) (h : i < s.size) (b0 : Int) (hb : (s[i].toNat : Int) = b0) (h1 : 244 ≤ b0) (h2 : b0 ≤ 244)
    (hn : i + 3 < s.size)
    (n1 : ¬ (128 ≤ (s[i+1].toNat : Int) ∧ (s[i+1].toNat : Int) ≤ 143)) :
    Calls Try.prog 31 #[.string s, .int .i64 i] w fun e w' => Wide w 1 e w' := by
  go_enter Try.func31, Try.ntmps31
  go_wp2_with (go_at_call 37; first | (refine (inRange_yes _ _ _ _ (by omega) (by omega)).mono ?_; rintro e w' ⟨rfl, rfl⟩) | (refine (inRange_no _ _ _ _ (by omega)).mono ?_; rintro e w' ⟨rfl, rfl⟩))
  go_ret2
  exact ⟨⟨_, rfl⟩, Below.refl _ _⟩

set_option maxHeartbeats 1000000 in
set_option maxRecDepth 10000 in
theorem dec_F4_no2 (s : ByteArray) (i : Nat) (w : World) (hs : s.size ≤ 1048576) (h : i < s.size) (b0 : Int) (hb : (s[i].toNat : Int) = b0) (h1 : 244 ≤ b0) (h2 : b0 ≤ 244)
    (hn : i + 3 < s.size)
    (l1 : 128 ≤ (s[i+1].toNat : Int)) (u1 : (s[i+1].toNat : Int) ≤ 143)
    (n2 : ¬ (128 ≤ (s[i+2].toNat : Int) ∧ (s[i+2].toNat : Int) ≤ 191)) :
    Calls Try.prog 31 #[.string s, .int .i64 i] w fun e w' => Wide w 1 e w' := by
  go_enter Try.func31, Try.ntmps31
  go_wp2_with (go_at_call 37; first | (refine (inRange_yes _ _ _ _ (by omega) (by omega)).mono ?_; rintro e w' ⟨rfl, rfl⟩) | (refine (inRange_no _ _ _ _ (by omega)).mono ?_; rintro e w' ⟨rfl, rfl⟩))
  go_ret2
  exact ⟨⟨_, rfl⟩, Below.refl _ _⟩

set_option maxHeartbeats 1000000 in
set_option maxRecDepth 10000 in
theorem dec_F4_no3 (s : ByteArray) (i : Nat) (w : World) (hs : s.size ≤ 1048576) (h : i < s.size) (b0 : Int) (hb : (s[i].toNat : Int) = b0) (h1 : 244 ≤ b0) (h2 : b0 ≤ 244)
    (hn : i + 3 < s.size)
    (l1 : 128 ≤ (s[i+1].toNat : Int)) (u1 : (s[i+1].toNat : Int) ≤ 143)
    (l2 : 128 ≤ (s[i+2].toNat : Int)) (u2 : (s[i+2].toNat : Int) ≤ 191)
    (n3 : ¬ (128 ≤ (s[i+3].toNat : Int) ∧ (s[i+3].toNat : Int) ≤ 191)) :
    Calls Try.prog 31 #[.string s, .int .i64 i] w fun e w' => Wide w 1 e w' := by
  go_enter Try.func31, Try.ntmps31
  go_wp2_with (go_at_call 37; first | (refine (inRange_yes _ _ _ _ (by omega) (by omega)).mono ?_; rintro e w' ⟨rfl, rfl⟩) | (refine (inRange_no _ _ _ _ (by omega)).mono ?_; rintro e w' ⟨rfl, rfl⟩))
  go_ret2
  exact ⟨⟨_, rfl⟩, Below.refl _ _⟩

set_option maxHeartbeats 1000000 in
set_option maxRecDepth 10000 in
theorem dec_F4_yes (s : ByteArray) (i : Nat) (w : World) (hs : s.size ≤ 1048576) (h : i < s.size) (b0 : Int) (hb : (s[i].toNat : Int) = b0) (h1 : 244 ≤ b0) (h2 : b0 ≤ 244)
    (hn : i + 3 < s.size)
    (l1 : 128 ≤ (s[i+1].toNat : Int)) (u1 : (s[i+1].toNat : Int) ≤ 143)
    (l2 : 128 ≤ (s[i+2].toNat : Int)) (u2 : (s[i+2].toNat : Int) ≤ 191)
    (l3 : 128 ≤ (s[i+3].toNat : Int)) (u3 : (s[i+3].toNat : Int) ≤ 191) :
    Calls Try.prog 31 #[.string s, .int .i64 i] w fun e w' => Wide w 4 e w' := by
  go_enter Try.func31, Try.ntmps31
  go_wp2_with (go_at_call 37; first | (refine (inRange_yes _ _ _ _ (by omega) (by omega)).mono ?_; rintro e w' ⟨rfl, rfl⟩) | (refine (inRange_no _ _ _ _ (by omega)).mono ?_; rintro e w' ⟨rfl, rfl⟩))
  have hi1 : (i : Int) + 1 < (s.size : Int) := by omega
  have hi2 : (i : Int) + 2 < (s.size : Int) := by omega
  have hi3 : (i : Int) + 3 < (s.size : Int) := by omega
  go_quiet (fail)
  go_wp2
  go_ret2
  exact ⟨⟨_, rfl⟩, below_drewN (Below.refl _ _) _⟩

end Go.Proofs.Qxb6605946a
