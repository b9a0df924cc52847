/-
  Plain: the width of the model's decoding, one range of lead bytes at a time. No Go in sight.
-/
import Derived.Test.Qxb6605946aRunes
namespace Go.Proofs.Qxb6605946a.Runes
open Go.Lib
set_option linter.unusedVariables false

theorem wid_A (s : ByteArray) (i : Nat) (h : i < s.size) (b0 : Int) (hb : (s[i].toNat : Int) = b0) (h1 : 0 ≤ b0) (h2 : b0 ≤ 127) : (Utf8.decode s i).2 = 1 := by
  rw [← get_bang] at hb
  have q1 := (s.get! (i + 1)).toNat_lt
  have q2 := (s.get! (i + 2)).toNat_lt
  have q3 := (s.get! (i + 3)).toNat_lt
  rw [decode_at]
  generalize (s.get! i).toNat = c0 at *
  generalize (s.get! (i + 1)).toNat = c1 at *
  generalize (s.get! (i + 2)).toNat = c2 at *
  generalize (s.get! (i + 3)).toNat = c3 at *
  unfold decodeN
  repeat' split
  all_goals first | rfl | (exfalso; omega)

theorem wid_B (s : ByteArray) (i : Nat) (h : i < s.size) (b0 : Int) (hb : (s[i].toNat : Int) = b0) (h1 : 128 ≤ b0) (h2 : b0 ≤ 193) : (Utf8.decode s i).2 = 1 := by
  rw [← get_bang] at hb
  have q1 := (s.get! (i + 1)).toNat_lt
  have q2 := (s.get! (i + 2)).toNat_lt
  have q3 := (s.get! (i + 3)).toNat_lt
  rw [decode_at]
  generalize (s.get! i).toNat = c0 at *
  generalize (s.get! (i + 1)).toNat = c1 at *
  generalize (s.get! (i + 2)).toNat = c2 at *
  generalize (s.get! (i + 3)).toNat = c3 at *
  unfold decodeN
  repeat' split
  all_goals first | rfl | (exfalso; omega)

theorem wid_Z (s : ByteArray) (i : Nat) (h : i < s.size) (b0 : Int) (hb : (s[i].toNat : Int) = b0) (h1 : 245 ≤ b0) (h2 : b0 ≤ 255) : (Utf8.decode s i).2 = 1 := by
  rw [← get_bang] at hb
  have q1 := (s.get! (i + 1)).toNat_lt
  have q2 := (s.get! (i + 2)).toNat_lt
  have q3 := (s.get! (i + 3)).toNat_lt
  rw [decode_at]
  generalize (s.get! i).toNat = c0 at *
  generalize (s.get! (i + 1)).toNat = c1 at *
  generalize (s.get! (i + 2)).toNat = c2 at *
  generalize (s.get! (i + 3)).toNat = c3 at *
  unfold decodeN
  repeat' split
  all_goals first | rfl | (exfalso; omega)

theorem wid_C_short (s : ByteArray) (i : Nat) (h : i < s.size) (b0 : Int) (hb : (s[i].toNat : Int) = b0) (h1 : 194 ≤ b0) (h2 : b0 ≤ 223) (hn : s.size < i + 2) : (Utf8.decode s i).2 = 1 := by
  rw [← get_bang] at hb
  have q1 := (s.get! (i + 1)).toNat_lt
  have q2 := (s.get! (i + 2)).toNat_lt
  have q3 := (s.get! (i + 3)).toNat_lt
  rw [decode_at]
  generalize (s.get! i).toNat = c0 at *
  generalize (s.get! (i + 1)).toNat = c1 at *
  generalize (s.get! (i + 2)).toNat = c2 at *
  generalize (s.get! (i + 3)).toNat = c3 at *
  unfold decodeN
  repeat' split
  all_goals first | rfl | (exfalso; omega)

theorem wid_C_no (s : ByteArray) (i : Nat) (h : i < s.size) (b0 : Int) (hb : (s[i].toNat : Int) = b0) (h1 : 194 ≤ b0) (h2 : b0 ≤ 223) (hn : i + 1 < s.size) (n1 : ¬ (128 ≤ (s[i+1].toNat : Int) ∧ (s[i+1].toNat : Int) ≤ 191)) : (Utf8.decode s i).2 = 1 := by
  rw [← get_bang] at hb
  rw [← get_bang] at n1
  have q1 := (s.get! (i + 1)).toNat_lt
  have q2 := (s.get! (i + 2)).toNat_lt
  have q3 := (s.get! (i + 3)).toNat_lt
  rw [decode_at]
  generalize (s.get! i).toNat = c0 at *
  generalize (s.get! (i + 1)).toNat = c1 at *
  generalize (s.get! (i + 2)).toNat = c2 at *
  generalize (s.get! (i + 3)).toNat = c3 at *
  unfold decodeN
  repeat' split
  all_goals first | rfl | (exfalso; omega)

theorem wid_C_yes (s : ByteArray) (i : Nat) (h : i < s.size) (b0 : Int) (hb : (s[i].toNat : Int) = b0) (h1 : 194 ≤ b0) (h2 : b0 ≤ 223) (hn : i + 1 < s.size) (l1 : 128 ≤ (s[i+1].toNat : Int)) (u1 : (s[i+1].toNat : Int) ≤ 191) : (Utf8.decode s i).2 = 2 := by
  rw [← get_bang] at hb
  rw [← get_bang] at l1 u1
  have q1 := (s.get! (i + 1)).toNat_lt
  have q2 := (s.get! (i + 2)).toNat_lt
  have q3 := (s.get! (i + 3)).toNat_lt
  rw [decode_at]
  generalize (s.get! i).toNat = c0 at *
  generalize (s.get! (i + 1)).toNat = c1 at *
  generalize (s.get! (i + 2)).toNat = c2 at *
  generalize (s.get! (i + 3)).toNat = c3 at *
  unfold decodeN
  repeat' split
  all_goals first | rfl | (exfalso; omega)

theorem wid_E0_short (s : ByteArray) (i : Nat) (h : i < s.size) (b0 : Int) (hb : (s[i].toNat : Int) = b0) (h1 : 224 ≤ b0) (h2 : b0 ≤ 224) (hn : s.size < i + 3) : (Utf8.decode s i).2 = 1 := by
  rw [← get_bang] at hb
  have q1 := (s.get! (i + 1)).toNat_lt
  have q2 := (s.get! (i + 2)).toNat_lt
  have q3 := (s.get! (i + 3)).toNat_lt
  rw [decode_at]
  generalize (s.get! i).toNat = c0 at *
  generalize (s.get! (i + 1)).toNat = c1 at *
  generalize (s.get! (i + 2)).toNat = c2 at *
  generalize (s.get! (i + 3)).toNat = c3 at *
  unfold decodeN
  repeat' split
  all_goals first | rfl | (exfalso; omega)

theorem wid_E0_no1 (s : ByteArray) (i : Nat) (h : i < s.size) (b0 : Int) (hb : (s[i].toNat : Int) = b0) (h1 : 224 ≤ b0) (h2 : b0 ≤ 224) (hn : i + 2 < s.size) (n1 : ¬ (160 ≤ (s[i+1].toNat : Int) ∧ (s[i+1].toNat : Int) ≤ 191)) : (Utf8.decode s i).2 = 1 := by
  rw [← get_bang] at hb
  rw [← get_bang] at n1
  have q1 := (s.get! (i + 1)).toNat_lt
  have q2 := (s.get! (i + 2)).toNat_lt
  have q3 := (s.get! (i + 3)).toNat_lt
  rw [decode_at]
  generalize (s.get! i).toNat = c0 at *
  generalize (s.get! (i + 1)).toNat = c1 at *
  generalize (s.get! (i + 2)).toNat = c2 at *
  generalize (s.get! (i + 3)).toNat = c3 at *
  unfold decodeN
  repeat' split
  all_goals first | rfl | (exfalso; omega)

theorem wid_E0_no2 (s : ByteArray) (i : Nat) (h : i < s.size) (b0 : Int) (hb : (s[i].toNat : Int) = b0) (h1 : 224 ≤ b0) (h2 : b0 ≤ 224) (hn : i + 2 < s.size) (l1 : 160 ≤ (s[i+1].toNat : Int)) (u1 : (s[i+1].toNat : Int) ≤ 191) (n2 : ¬ (128 ≤ (s[i+2].toNat : Int) ∧ (s[i+2].toNat : Int) ≤ 191)) : (Utf8.decode s i).2 = 1 := by
  rw [← get_bang] at hb
  rw [← get_bang] at l1 u1
  rw [← get_bang] at n2
  have q1 := (s.get! (i + 1)).toNat_lt
  have q2 := (s.get! (i + 2)).toNat_lt
  have q3 := (s.get! (i + 3)).toNat_lt
  rw [decode_at]
  generalize (s.get! i).toNat = c0 at *
  generalize (s.get! (i + 1)).toNat = c1 at *
  generalize (s.get! (i + 2)).toNat = c2 at *
  generalize (s.get! (i + 3)).toNat = c3 at *
  unfold decodeN
  repeat' split
  all_goals first | rfl | (exfalso; omega)

theorem wid_E0_yes (s : ByteArray) (i : Nat) (h : i < s.size) (b0 : Int) (hb : (s[i].toNat : Int) = b0) (h1 : 224 ≤ b0) (h2 : b0 ≤ 224) (hn : i + 2 < s.size) (l1 : 160 ≤ (s[i+1].toNat : Int)) (u1 : (s[i+1].toNat : Int) ≤ 191) (l2 : 128 ≤ (s[i+2].toNat : Int)) (u2 : (s[i+2].toNat : Int) ≤ 191) : (Utf8.decode s i).2 = 3 := by
  rw [← get_bang] at hb
  rw [← get_bang] at l1 u1
  rw [← get_bang] at l2 u2
  have q1 := (s.get! (i + 1)).toNat_lt
  have q2 := (s.get! (i + 2)).toNat_lt
  have q3 := (s.get! (i + 3)).toNat_lt
  rw [decode_at]
  generalize (s.get! i).toNat = c0 at *
  generalize (s.get! (i + 1)).toNat = c1 at *
  generalize (s.get! (i + 2)).toNat = c2 at *
  generalize (s.get! (i + 3)).toNat = c3 at *
  unfold decodeN
  repeat' split
  all_goals first | rfl | (exfalso; omega)

theorem wid_E1_short (s : ByteArray) (i : Nat) (h : i < s.size) (b0 : Int) (hb : (s[i].toNat : Int) = b0) (h1 : 225 ≤ b0) (h2 : b0 ≤ 236) (hn : s.size < i + 3) : (Utf8.decode s i).2 = 1 := by
  rw [← get_bang] at hb
  have q1 := (s.get! (i + 1)).toNat_lt
  have q2 := (s.get! (i + 2)).toNat_lt
  have q3 := (s.get! (i + 3)).toNat_lt
  rw [decode_at]
  generalize (s.get! i).toNat = c0 at *
  generalize (s.get! (i + 1)).toNat = c1 at *
  generalize (s.get! (i + 2)).toNat = c2 at *
  generalize (s.get! (i + 3)).toNat = c3 at *
  unfold decodeN
  repeat' split
  all_goals first | rfl | (exfalso; omega)

theorem wid_E1_no1 (s : ByteArray) (i : Nat) (h : i < s.size) (b0 : Int) (hb : (s[i].toNat : Int) = b0) (h1 : 225 ≤ b0) (h2 : b0 ≤ 236) (hn : i + 2 < s.size) (n1 : ¬ (128 ≤ (s[i+1].toNat : Int) ∧ (s[i+1].toNat : Int) ≤ 191)) : (Utf8.decode s i).2 = 1 := by
  rw [← get_bang] at hb
  rw [← get_bang] at n1
  have q1 := (s.get! (i + 1)).toNat_lt
  have q2 := (s.get! (i + 2)).toNat_lt
  have q3 := (s.get! (i + 3)).toNat_lt
  rw [decode_at]
  generalize (s.get! i).toNat = c0 at *
  generalize (s.get! (i + 1)).toNat = c1 at *
  generalize (s.get! (i + 2)).toNat = c2 at *
  generalize (s.get! (i + 3)).toNat = c3 at *
  unfold decodeN
  repeat' split
  all_goals first | rfl | (exfalso; omega)

theorem wid_E1_no2 (s : ByteArray) (i : Nat) (h : i < s.size) (b0 : Int) (hb : (s[i].toNat : Int) = b0) (h1 : 225 ≤ b0) (h2 : b0 ≤ 236) (hn : i + 2 < s.size) (l1 : 128 ≤ (s[i+1].toNat : Int)) (u1 : (s[i+1].toNat : Int) ≤ 191) (n2 : ¬ (128 ≤ (s[i+2].toNat : Int) ∧ (s[i+2].toNat : Int) ≤ 191)) : (Utf8.decode s i).2 = 1 := by
  rw [← get_bang] at hb
  rw [← get_bang] at l1 u1
  rw [← get_bang] at n2
  have q1 := (s.get! (i + 1)).toNat_lt
  have q2 := (s.get! (i + 2)).toNat_lt
  have q3 := (s.get! (i + 3)).toNat_lt
  rw [decode_at]
  generalize (s.get! i).toNat = c0 at *
  generalize (s.get! (i + 1)).toNat = c1 at *
  generalize (s.get! (i + 2)).toNat = c2 at *
  generalize (s.get! (i + 3)).toNat = c3 at *
  unfold decodeN
  repeat' split
  all_goals first | rfl | (exfalso; omega)

theorem wid_E1_yes (s : ByteArray) (i : Nat) (h : i < s.size) (b0 : Int) (hb : (s[i].toNat : Int) = b0) (h1 : 225 ≤ b0) (h2 : b0 ≤ 236) (hn : i + 2 < s.size) (l1 : 128 ≤ (s[i+1].toNat : Int)) (u1 : (s[i+1].toNat : Int) ≤ 191) (l2 : 128 ≤ (s[i+2].toNat : Int)) (u2 : (s[i+2].toNat : Int) ≤ 191) : (Utf8.decode s i).2 = 3 := by
  rw [← get_bang] at hb
  rw [← get_bang] at l1 u1
  rw [← get_bang] at l2 u2
  have q1 := (s.get! (i + 1)).toNat_lt
  have q2 := (s.get! (i + 2)).toNat_lt
  have q3 := (s.get! (i + 3)).toNat_lt
  rw [decode_at]
  generalize (s.get! i).toNat = c0 at *
  generalize (s.get! (i + 1)).toNat = c1 at *
  generalize (s.get! (i + 2)).toNat = c2 at *
  generalize (s.get! (i + 3)).toNat = c3 at *
  unfold decodeN
  repeat' split
  all_goals first | rfl | (exfalso; omega)

theorem wid_ED_short (s : ByteArray) (i : Nat) (h : i < s.size) (b0 : Int) (hb : (s[i].toNat : Int) = b0) (h1 : 237 ≤ b0) (h2 : b0 ≤ 237) (hn : s.size < i + 3) : (Utf8.decode s i).2 = 1 := by
  rw [← get_bang] at hb
  have q1 := (s.get! (i + 1)).toNat_lt
  have q2 := (s.get! (i + 2)).toNat_lt
  have q3 := (s.get! (i + 3)).toNat_lt
  rw [decode_at]
  generalize (s.get! i).toNat = c0 at *
  generalize (s.get! (i + 1)).toNat = c1 at *
  generalize (s.get! (i + 2)).toNat = c2 at *
  generalize (s.get! (i + 3)).toNat = c3 at *
  unfold decodeN
  repeat' split
  all_goals first | rfl | (exfalso; omega)

theorem wid_ED_no1 (s : ByteArray) (i : Nat) (h : i < s.size) (b0 : Int) (hb : (s[i].toNat : Int) = b0) (h1 : 237 ≤ b0) (h2 : b0 ≤ 237) (hn : i + 2 < s.size) (n1 : ¬ (128 ≤ (s[i+1].toNat : Int) ∧ (s[i+1].toNat : Int) ≤ 159)) : (Utf8.decode s i).2 = 1 := by
  rw [← get_bang] at hb
  rw [← get_bang] at n1
  have q1 := (s.get! (i + 1)).toNat_lt
  have q2 := (s.get! (i + 2)).toNat_lt
  have q3 := (s.get! (i + 3)).toNat_lt
  rw [decode_at]
  generalize (s.get! i).toNat = c0 at *
  generalize (s.get! (i + 1)).toNat = c1 at *
  generalize (s.get! (i + 2)).toNat = c2 at *
  generalize (s.get! (i + 3)).toNat = c3 at *
  unfold decodeN
  repeat' split
  all_goals first | rfl | (exfalso; omega)

theorem wid_ED_no2 (s : ByteArray) (i : Nat) (h : i < s.size) (b0 : Int) (hb : (s[i].toNat : Int) = b0) (h1 : 237 ≤ b0) (h2 : b0 ≤ 237) (hn : i + 2 < s.size) (l1 : 128 ≤ (s[i+1].toNat : Int)) (u1 : (s[i+1].toNat : Int) ≤ 159) (n2 : ¬ (128 ≤ (s[i+2].toNat : Int) ∧ (s[i+2].toNat : Int) ≤ 191)) : (Utf8.decode s i).2 = 1 := by
  rw [← get_bang] at hb
  rw [← get_bang] at l1 u1
  rw [← get_bang] at n2
  have q1 := (s.get! (i + 1)).toNat_lt
  have q2 := (s.get! (i + 2)).toNat_lt
  have q3 := (s.get! (i + 3)).toNat_lt
  rw [decode_at]
  generalize (s.get! i).toNat = c0 at *
  generalize (s.get! (i + 1)).toNat = c1 at *
  generalize (s.get! (i + 2)).toNat = c2 at *
  generalize (s.get! (i + 3)).toNat = c3 at *
  unfold decodeN
  repeat' split
  all_goals first | rfl | (exfalso; omega)

theorem wid_ED_yes (s : ByteArray) (i : Nat) (h : i < s.size) (b0 : Int) (hb : (s[i].toNat : Int) = b0) (h1 : 237 ≤ b0) (h2 : b0 ≤ 237) (hn : i + 2 < s.size) (l1 : 128 ≤ (s[i+1].toNat : Int)) (u1 : (s[i+1].toNat : Int) ≤ 159) (l2 : 128 ≤ (s[i+2].toNat : Int)) (u2 : (s[i+2].toNat : Int) ≤ 191) : (Utf8.decode s i).2 = 3 := by
  rw [← get_bang] at hb
  rw [← get_bang] at l1 u1
  rw [← get_bang] at l2 u2
  have q1 := (s.get! (i + 1)).toNat_lt
  have q2 := (s.get! (i + 2)).toNat_lt
  have q3 := (s.get! (i + 3)).toNat_lt
  rw [decode_at]
  generalize (s.get! i).toNat = c0 at *
  generalize (s.get! (i + 1)).toNat = c1 at *
  generalize (s.get! (i + 2)).toNat = c2 at *
  generalize (s.get! (i + 3)).toNat = c3 at *
  unfold decodeN
  repeat' split
  all_goals first | rfl | (exfalso; omega)

theorem wid_EE_short (s : ByteArray) (i : Nat) (h : i < s.size) (b0 : Int) (hb : (s[i].toNat : Int) = b0) (h1 : 238 ≤ b0) (h2 : b0 ≤ 239) (hn : s.size < i + 3) : (Utf8.decode s i).2 = 1 := by
  rw [← get_bang] at hb
  have q1 := (s.get! (i + 1)).toNat_lt
  have q2 := (s.get! (i + 2)).toNat_lt
  have q3 := (s.get! (i + 3)).toNat_lt
  rw [decode_at]
  generalize (s.get! i).toNat = c0 at *
  generalize (s.get! (i + 1)).toNat = c1 at *
  generalize (s.get! (i + 2)).toNat = c2 at *
  generalize (s.get! (i + 3)).toNat = c3 at *
  unfold decodeN
  repeat' split
  all_goals first | rfl | (exfalso; omega)

theorem wid_EE_no1 (s : ByteArray) (i : Nat) (h : i < s.size) (b0 : Int) (hb : (s[i].toNat : Int) = b0) (h1 : 238 ≤ b0) (h2 : b0 ≤ 239) (hn : i + 2 < s.size) (n1 : ¬ (128 ≤ (s[i+1].toNat : Int) ∧ (s[i+1].toNat : Int) ≤ 191)) : (Utf8.decode s i).2 = 1 := by
  rw [← get_bang] at hb
  rw [← get_bang] at n1
  have q1 := (s.get! (i + 1)).toNat_lt
  have q2 := (s.get! (i + 2)).toNat_lt
  have q3 := (s.get! (i + 3)).toNat_lt
  rw [decode_at]
  generalize (s.get! i).toNat = c0 at *
  generalize (s.get! (i + 1)).toNat = c1 at *
  generalize (s.get! (i + 2)).toNat = c2 at *
  generalize (s.get! (i + 3)).toNat = c3 at *
  unfold decodeN
  repeat' split
  all_goals first | rfl | (exfalso; omega)

theorem wid_EE_no2 (s : ByteArray) (i : Nat) (h : i < s.size) (b0 : Int) (hb : (s[i].toNat : Int) = b0) (h1 : 238 ≤ b0) (h2 : b0 ≤ 239) (hn : i + 2 < s.size) (l1 : 128 ≤ (s[i+1].toNat : Int)) (u1 : (s[i+1].toNat : Int) ≤ 191) (n2 : ¬ (128 ≤ (s[i+2].toNat : Int) ∧ (s[i+2].toNat : Int) ≤ 191)) : (Utf8.decode s i).2 = 1 := by
  rw [← get_bang] at hb
  rw [← get_bang] at l1 u1
  rw [← get_bang] at n2
  have q1 := (s.get! (i + 1)).toNat_lt
  have q2 := (s.get! (i + 2)).toNat_lt
  have q3 := (s.get! (i + 3)).toNat_lt
  rw [decode_at]
  generalize (s.get! i).toNat = c0 at *
  generalize (s.get! (i + 1)).toNat = c1 at *
  generalize (s.get! (i + 2)).toNat = c2 at *
  generalize (s.get! (i + 3)).toNat = c3 at *
  unfold decodeN
  repeat' split
  all_goals first | rfl | (exfalso; omega)

theorem wid_EE_yes (s : ByteArray) (i : Nat) (h : i < s.size) (b0 : Int) (hb : (s[i].toNat : Int) = b0) (h1 : 238 ≤ b0) (h2 : b0 ≤ 239) (hn : i + 2 < s.size) (l1 : 128 ≤ (s[i+1].toNat : Int)) (u1 : (s[i+1].toNat : Int) ≤ 191) (l2 : 128 ≤ (s[i+2].toNat : Int)) (u2 : (s[i+2].toNat : Int) ≤ 191) : (Utf8.decode s i).2 = 3 := by
  rw [← get_bang] at hb
  rw [← get_bang] at l1 u1
  rw [← get_bang] at l2 u2
  have q1 := (s.get! (i + 1)).toNat_lt
  have q2 := (s.get! (i + 2)).toNat_lt
  have q3 := (s.get! (i + 3)).toNat_lt
  rw [decode_at]
  generalize (s.get! i).toNat = c0 at *
  generalize (s.get! (i + 1)).toNat = c1 at *
  generalize (s.get! (i + 2)).toNat = c2 at *
  generalize (s.get! (i + 3)).toNat = c3 at *
  unfold decodeN
  repeat' split
  all_goals first | rfl | (exfalso; omega)

theorem wid_F0_short (s : ByteArray) (i : Nat) (h : i < s.size) (b0 : Int) (hb : (s[i].toNat : Int) = b0) (h1 : 240 ≤ b0) (h2 : b0 ≤ 240) (hn : s.size < i + 4) : (Utf8.decode s i).2 = 1 := by
  rw [← get_bang] at hb
  have q1 := (s.get! (i + 1)).toNat_lt
  have q2 := (s.get! (i + 2)).toNat_lt
  have q3 := (s.get! (i + 3)).toNat_lt
  rw [decode_at]
  generalize (s.get! i).toNat = c0 at *
  generalize (s.get! (i + 1)).toNat = c1 at *
  generalize (s.get! (i + 2)).toNat = c2 at *
  generalize (s.get! (i + 3)).toNat = c3 at *
  unfold decodeN
  repeat' split
  all_goals first | rfl | (exfalso; omega)

theorem wid_F0_no1 (s : ByteArray) (i : Nat) (h : i < s.size) (b0 : Int) (hb : (s[i].toNat : Int) = b0) (h1 : 240 ≤ b0) (h2 : b0 ≤ 240) (hn : i + 3 < s.size) (n1 : ¬ (144 ≤ (s[i+1].toNat : Int) ∧ (s[i+1].toNat : Int) ≤ 191)) : (Utf8.decode s i).2 = 1 := by
  rw [← get_bang] at hb
  rw [← get_bang] at n1
  have q1 := (s.get! (i + 1)).toNat_lt
  have q2 := (s.get! (i + 2)).toNat_lt
  have q3 := (s.get! (i + 3)).toNat_lt
  rw [decode_at]
  generalize (s.get! i).toNat = c0 at *
  generalize (s.get! (i + 1)).toNat = c1 at *
  generalize (s.get! (i + 2)).toNat = c2 at *
  generalize (s.get! (i + 3)).toNat = c3 at *
  unfold decodeN
  repeat' split
  all_goals first | rfl | (exfalso; omega)

theorem wid_F0_no2 (s : ByteArray) (i : Nat) (h : i < s.size) (b0 : Int) (hb : (s[i].toNat : Int) = b0) (h1 : 240 ≤ b0) (h2 : b0 ≤ 240) (hn : i + 3 < s.size) (l1 : 144 ≤ (s[i+1].toNat : Int)) (u1 : (s[i+1].toNat : Int) ≤ 191) (n2 : ¬ (128 ≤ (s[i+2].toNat : Int) ∧ (s[i+2].toNat : Int) ≤ 191)) : (Utf8.decode s i).2 = 1 := by
  rw [← get_bang] at hb
  rw [← get_bang] at l1 u1
  rw [← get_bang] at n2
  have q1 := (s.get! (i + 1)).toNat_lt
  have q2 := (s.get! (i + 2)).toNat_lt
  have q3 := (s.get! (i + 3)).toNat_lt
  rw [decode_at]
  generalize (s.get! i).toNat = c0 at *
  generalize (s.get! (i + 1)).toNat = c1 at *
  generalize (s.get! (i + 2)).toNat = c2 at *
  generalize (s.get! (i + 3)).toNat = c3 at *
  unfold decodeN
  repeat' split
  all_goals first | rfl | (exfalso; omega)

theorem wid_F0_no3 (s : ByteArray) (i : Nat) (h : i < s.size) (b0 : Int) (hb : (s[i].toNat : Int) = b0) (h1 : 240 ≤ b0) (h2 : b0 ≤ 240) (hn : i + 3 < s.size) (l1 : 144 ≤ (s[i+1].toNat : Int)) (u1 : (s[i+1].toNat : Int) ≤ 191) (l2 : 128 ≤ (s[i+2].toNat : Int)) (u2 : (s[i+2].toNat : Int) ≤ 191) (n3 : ¬ (128 ≤ (s[i+3].toNat : Int) ∧ (s[i+3].toNat : Int) ≤ 191)) : (Utf8.decode s i).2 = 1 := by
  rw [← get_bang] at hb
  rw [← get_bang] at l1 u1
  rw [← get_bang] at l2 u2
  rw [← get_bang] at n3
  have q1 := (s.get! (i + 1)).toNat_lt
  have q2 := (s.get! (i + 2)).toNat_lt
  have q3 := (s.get! (i + 3)).toNat_lt
  rw [decode_at]
  generalize (s.get! i).toNat = c0 at *
  generalize (s.get! (i + 1)).toNat = c1 at *
  generalize (s.get! (i + 2)).toNat = c2 at *
  generalize (s.get! (i + 3)).toNat = c3 at *
  unfold decodeN
  repeat' split
  all_goals first | rfl | (exfalso; omega)

theorem wid_F0_yes (s : ByteArray) (i : Nat) (h : i < s.size) (b0 : Int) (hb : (s[i].toNat : Int) = b0) (h1 : 240 ≤ b0) (h2 : b0 ≤ 240) (hn : i + 3 < s.size) (l1 : 144 ≤ (s[i+1].toNat : Int)) (u1 : (s[i+1].toNat : Int) ≤ 191) (l2 : 128 ≤ (s[i+2].toNat : Int)) (u2 : (s[i+2].toNat : Int) ≤ 191) (l3 : 128 ≤ (s[i+3].toNat : Int)) (u3 : (s[i+3].toNat : Int) ≤ 191) : (Utf8.decode s i).2 = 4 := by
  rw [← get_bang] at hb
  rw [← get_bang] at l1 u1
  rw [← get_bang] at l2 u2
  rw [← get_bang] at l3 u3
  have q1 := (s.get! (i + 1)).toNat_lt
  have q2 := (s.get! (i + 2)).toNat_lt
  have q3 := (s.get! (i + 3)).toNat_lt
  rw [decode_at]
  generalize (s.get! i).toNat = c0 at *
  generalize (s.get! (i + 1)).toNat = c1 at *
  generalize (s.get! (i + 2)).toNat = c2 at *
  generalize (s.get! (i + 3)).toNat = c3 at *
  unfold decodeN
  repeat' split
  all_goals first | rfl | (exfalso; omega)

theorem wid_F1_short (s : ByteArray) (i : Nat) (h : i < s.size) (b0 : Int) (hb : (s[i].toNat : Int) = b0) (h1 : 241 ≤ b0) (h2 : b0 ≤ 243) (hn : s.size < i + 4) : (Utf8.decode s i).2 = 1 := by
  rw [← get_bang] at hb
  have q1 := (s.get! (i + 1)).toNat_lt
  have q2 := (s.get! (i + 2)).toNat_lt
  have q3 := (s.get! (i + 3)).toNat_lt
  rw [decode_at]
  generalize (s.get! i).toNat = c0 at *
  generalize (s.get! (i + 1)).toNat = c1 at *
  generalize (s.get! (i + 2)).toNat = c2 at *
  generalize (s.get! (i + 3)).toNat = c3 at *
  unfold decodeN
  repeat' split
  all_goals first | rfl | (exfalso; omega)

theorem wid_F1_no1 (s : ByteArray) (i : Nat) (h : i < s.size) (b0 : Int) (hb : (s[i].toNat : Int) = b0) (h1 : 241 ≤ b0) (h2 : b0 ≤ 243) (hn : i + 3 < s.size) (n1 : ¬ (128 ≤ (s[i+1].toNat : Int) ∧ (s[i+1].toNat : Int) ≤ 191)) : (Utf8.decode s i).2 = 1 := by
  rw [← get_bang] at hb
  rw [← get_bang] at n1
  have q1 := (s.get! (i + 1)).toNat_lt
  have q2 := (s.get! (i + 2)).toNat_lt
  have q3 := (s.get! (i + 3)).toNat_lt
  rw [decode_at]
  generalize (s.get! i).toNat = c0 at *
  generalize (s.get! (i + 1)).toNat = c1 at *
  generalize (s.get! (i + 2)).toNat = c2 at *
  generalize (s.get! (i + 3)).toNat = c3 at *
  unfold decodeN
  repeat' split
  all_goals first | rfl | (exfalso; omega)

theorem wid_F1_no2 (s : ByteArray) (i : Nat) (h : i < s.size) (b0 : Int) (hb : (s[i].toNat : Int) = b0) (h1 : 241 ≤ b0) (h2 : b0 ≤ 243) (hn : i + 3 < s.size) (l1 : 128 ≤ (s[i+1].toNat : Int)) (u1 : (s[i+1].toNat : Int) ≤ 191) (n2 : ¬ (128 ≤ (s[i+2].toNat : Int) ∧ (s[i+2].toNat : Int) ≤ 191)) : (Utf8.decode s i).2 = 1 := by
  rw [← get_bang] at hb
  rw [← get_bang] at l1 u1
  rw [← get_bang] at n2
  have q1 := (s.get! (i + 1)).toNat_lt
  have q2 := (s.get! (i + 2)).toNat_lt
  have q3 := (s.get! (i + 3)).toNat_lt
  rw [decode_at]
  generalize (s.get! i).toNat = c0 at *
  generalize (s.get! (i + 1)).toNat = c1 at *
  generalize (s.get! (i + 2)).toNat = c2 at *
  generalize (s.get! (i + 3)).toNat = c3 at *
  unfold decodeN
  repeat' split
  all_goals first | rfl | (exfalso; omega)

theorem wid_F1_no3 (s : ByteArray) (i : Nat) (h : i < s.size) (b0 : Int) (hb : (s[i].toNat : Int) = b0) (h1 : 241 ≤ b0) (h2 : b0 ≤ 243) (hn : i + 3 < s.size) (l1 : 128 ≤ (s[i+1].toNat : Int)) (u1 : (s[i+1].toNat : Int) ≤ 191) (l2 : 128 ≤ (s[i+2].toNat : Int)) (u2 : (s[i+2].toNat : Int) ≤ 191) (n3 : ¬ (128 ≤ (s[i+3].toNat : Int) ∧ (s[i+3].toNat : Int) ≤ 191)) : (Utf8.decode s i).2 = 1 := by
  rw [← get_bang] at hb
  rw [← get_bang] at l1 u1
  rw [← get_bang] at l2 u2
  rw [← get_bang] at n3
  have q1 := (s.get! (i + 1)).toNat_lt
  have q2 := (s.get! (i + 2)).toNat_lt
  have q3 := (s.get! (i + 3)).toNat_lt
  rw [decode_at]
  generalize (s.get! i).toNat = c0 at *
  generalize (s.get! (i + 1)).toNat = c1 at *
  generalize (s.get! (i + 2)).toNat = c2 at *
  generalize (s.get! (i + 3)).toNat = c3 at *
  unfold decodeN
  repeat' split
  all_goals first | rfl | (exfalso; omega)

theorem wid_F1_yes (s : ByteArray) (i : Nat) (h : i < s.size) (b0 : Int) (hb : (s[i].toNat : Int) = b0) (h1 : 241 ≤ b0) (h2 : b0 ≤ 243) (hn : i + 3 < s.size) (l1 : 128 ≤ (s[i+1].toNat : Int)) (u1 : (s[i+1].toNat : Int) ≤ 191) (l2 : 128 ≤ (s[i+2].toNat : Int)) (u2 : (s[i+2].toNat : Int) ≤ 191) (l3 : 128 ≤ (s[i+3].toNat : Int)) (u3 : (s[i+3].toNat : Int) ≤ 191) : (Utf8.decode s i).2 = 4 := by
  rw [← get_bang] at hb
  rw [← get_bang] at l1 u1
  rw [← get_bang] at l2 u2
  rw [← get_bang] at l3 u3
  have q1 := (s.get! (i + 1)).toNat_lt
  have q2 := (s.get! (i + 2)).toNat_lt
  have q3 := (s.get! (i + 3)).toNat_lt
  rw [decode_at]
  generalize (s.get! i).toNat = c0 at *
  generalize (s.get! (i + 1)).toNat = c1 at *
  generalize (s.get! (i + 2)).toNat = c2 at *
  generalize (s.get! (i + 3)).toNat = c3 at *
  unfold decodeN
  repeat' split
  all_goals first | rfl | (exfalso; omega)

theorem wid_F4_short (s : ByteArray) (i : Nat) (h : i < s.size) (b0 : Int) (hb : (s[i].toNat : Int) = b0) (h1 : 244 ≤ b0) (h2 : b0 ≤ 244) (hn : s.size < i + 4) : (Utf8.decode s i).2 = 1 := by
  rw [← get_bang] at hb
  have q1 := (s.get! (i + 1)).toNat_lt
  have q2 := (s.get! (i + 2)).toNat_lt
  have q3 := (s.get! (i + 3)).toNat_lt
  rw [decode_at]
  generalize (s.get! i).toNat = c0 at *
  generalize (s.get! (i + 1)).toNat = c1 at *
  generalize (s.get! (i + 2)).toNat = c2 at *
  generalize (s.get! (i + 3)).toNat = c3 at *
  unfold decodeN
  repeat' split
  all_goals first | rfl | (exfalso; omega)

theorem wid_F4_no1 (s : ByteArray) (i : Nat) (h : i < s.size) (b0 : Int) (hb : (s[i].toNat : Int) = b0) (h1 : 244 ≤ b0) (h2 : b0 ≤ 244) (hn : i + 3 < s.size) (n1 : ¬ (128 ≤ (s[i+1].toNat : Int) ∧ (s[i+1].toNat : Int) ≤ 143)) : (Utf8.decode s i).2 = 1 := by
  rw [← get_bang] at hb
  rw [← get_bang] at n1
  have q1 := (s.get! (i + 1)).toNat_lt
  have q2 := (s.get! (i + 2)).toNat_lt
  have q3 := (s.get! (i + 3)).toNat_lt
  rw [decode_at]
  generalize (s.get! i).toNat = c0 at *
  generalize (s.get! (i + 1)).toNat = c1 at *
  generalize (s.get! (i + 2)).toNat = c2 at *
  generalize (s.get! (i + 3)).toNat = c3 at *
  unfold decodeN
  repeat' split
  all_goals first | rfl | (exfalso; omega)

theorem wid_F4_no2 (s : ByteArray) (i : Nat) (h : i < s.size) (b0 : Int) (hb : (s[i].toNat : Int) = b0) (h1 : 244 ≤ b0) (h2 : b0 ≤ 244) (hn : i + 3 < s.size) (l1 : 128 ≤ (s[i+1].toNat : Int)) (u1 : (s[i+1].toNat : Int) ≤ 143) (n2 : ¬ (128 ≤ (s[i+2].toNat : Int) ∧ (s[i+2].toNat : Int) ≤ 191)) : (Utf8.decode s i).2 = 1 := by
  rw [← get_bang] at hb
  rw [← get_bang] at l1 u1
  rw [← get_bang] at n2
  have q1 := (s.get! (i + 1)).toNat_lt
  have q2 := (s.get! (i + 2)).toNat_lt
  have q3 := (s.get! (i + 3)).toNat_lt
  rw [decode_at]
  generalize (s.get! i).toNat = c0 at *
  generalize (s.get! (i + 1)).toNat = c1 at *
  generalize (s.get! (i + 2)).toNat = c2 at *
  generalize (s.get! (i + 3)).toNat = c3 at *
  unfold decodeN
  repeat' split
  all_goals first | rfl | (exfalso; omega)

theorem wid_F4_no3 (s : ByteArray) (i : Nat) (h : i < s.size) (b0 : Int) (hb : (s[i].toNat : Int) = b0) (h1 : 244 ≤ b0) (h2 : b0 ≤ 244) (hn : i + 3 < s.size) (l1 : 128 ≤ (s[i+1].toNat : Int)) (u1 : (s[i+1].toNat : Int) ≤ 143) (l2 : 128 ≤ (s[i+2].toNat : Int)) (u2 : (s[i+2].toNat : Int) ≤ 191) (n3 : ¬ (128 ≤ (s[i+3].toNat : Int) ∧ (s[i+3].toNat : Int) ≤ 191)) : (Utf8.decode s i).2 = 1 := by
  rw [← get_bang] at hb
  rw [← get_bang] at l1 u1
  rw [← get_bang] at l2 u2
  rw [← get_bang] at n3
  have q1 := (s.get! (i + 1)).toNat_lt
  have q2 := (s.get! (i + 2)).toNat_lt
  have q3 := (s.get! (i + 3)).toNat_lt
  rw [decode_at]
  generalize (s.get! i).toNat = c0 at *
  generalize (s.get! (i + 1)).toNat = c1 at *
  generalize (s.get! (i + 2)).toNat = c2 at *
  generalize (s.get! (i + 3)).toNat = c3 at *
  unfold decodeN
  repeat' split
  all_goals first | rfl | (exfalso; omega)

theorem wid_F4_yes (s : ByteArray) (i : Nat) (h : i < s.size) (b0 : Int) (hb : (s[i].toNat : Int) = b0) (h1 : 244 ≤ b0) (h2 : b0 ≤ 244) (hn : i + 3 < s.size) (l1 : 128 ≤ (s[i+1].toNat : Int)) (u1 : (s[i+1].toNat : Int) ≤ 143) (l2 : 128 ≤ (s[i+2].toNat : Int)) (u2 : (s[i+2].toNat : Int) ≤ 191) (l3 : 128 ≤ (s[i+3].toNat : Int)) (u3 : (s[i+3].toNat : Int) ≤ 191) : (Utf8.decode s i).2 = 4 := by
  rw [← get_bang] at hb
  rw [← get_bang] at l1 u1
  rw [← get_bang] at l2 u2
  rw [← get_bang] at l3 u3
  have q1 := (s.get! (i + 1)).toNat_lt
  have q2 := (s.get! (i + 2)).toNat_lt
  have q3 := (s.get! (i + 3)).toNat_lt
  rw [decode_at]
  generalize (s.get! i).toNat = c0 at *
  generalize (s.get! (i + 1)).toNat = c1 at *
  generalize (s.get! (i + 2)).toNat = c2 at *
  generalize (s.get! (i + 3)).toNat = c3 at *
  unfold decodeN
  repeat' split
  all_goals first | rfl | (exfalso; omega)

end Go.Proofs.Qxb6605946a.Runes
