/-
  Plain laws over the model's own decoding of UTF-8: how many runes a string's head holds. No Go in sight.
-/
import Derived.Lib.RuneCount
import Derived.Lib.DecodeN
import Derived.Lib.RuneCountTail
namespace Go.Proofs.Qxb6605946a.Runes
open Go.Lib

theorem decodeN_le4 (n b0 b1 b2 b3 : Nat) : (decodeN n b0 b1 b2 b3).2 ≤ 4 := by
  unfold decodeN
  repeat' split
  all_goals simp

theorem decodeN_in (n b0 b1 b2 b3 : Nat) (hn : 1 ≤ n) : (decodeN n b0 b1 b2 b3).2 ≤ n := by
  unfold decodeN
  repeat' split
  all_goals (simp only; omega)

theorem width_le4 (s : ByteArray) (i : Nat) : (Utf8.decode s i).2 ≤ 4 := by
  rw [decode_at]; exact decodeN_le4 _ _ _ _ _

theorem width_in (s : ByteArray) (i : Nat) (h : i < s.size) : i + (Utf8.decode s i).2 ≤ s.size := by
  rw [decode_at]
  have := decodeN_in (s.size - i) (s.get! i).toNat (s.get! (i + 1)).toNat (s.get! (i + 2)).toNat (s.get! (i + 3)).toNat (by omega)
  omega

theorem decodeN_same (n m b0 b1 b2 b3 c1 c2 c3 : Nat)
    (h1 : (1 < n ∧ b1 / 64 = 2) ↔ (1 < m ∧ c1 / 64 = 2)) (e1 : 1 < n → 1 < m → b1 = c1)
    (h2 : (2 < n ∧ b2 / 64 = 2) ↔ (2 < m ∧ c2 / 64 = 2)) (e2 : 2 < n → 2 < m → b2 = c2)
    (h3 : (3 < n ∧ b3 / 64 = 2) ↔ (3 < m ∧ c3 / 64 = 2)) (e3 : 3 < n → 3 < m → b3 = c3) :
    decodeN n b0 b1 b2 b3 = decodeN m b0 c1 c2 c3 := by
  by_cases p1 : 1 < n ∧ b1 / 64 = 2
  · have q1 := h1.1 p1
    have f1 := e1 p1.1 q1.1
    subst f1
    by_cases p2 : 2 < n ∧ b2 / 64 = 2
    · have q2 := h2.1 p2
      have f2 := e2 p2.1 q2.1
      subst f2
      by_cases p3 : 3 < n ∧ b3 / 64 = 2
      · have q3 := h3.1 p3
        have f3 := e3 p3.1 q3.1
        subst f3
        unfold decodeN
        simp only [p1, p2, p3, q1, q2, q3]
      · have q3 : ¬ (3 < m ∧ c3 / 64 = 2) := fun h => p3 (h3.2 h)
        unfold decodeN
        simp only [p1, p2, p3, q1, q2, q3, and_false, if_false]
    · have q2 : ¬ (2 < m ∧ c2 / 64 = 2) := fun h => p2 (h2.2 h)
      unfold decodeN
      simp only [p1, p2, q1, q2, and_false, false_and, if_false]
  · have q1 : ¬ (1 < m ∧ c1 / 64 = 2) := fun h => p1 (h1.2 h)
    unfold decodeN
    simp only [p1, q1, and_false, false_and, if_false]

theorem size_head (s : ByteArray) (n : Nat) (hn : n ≤ s.size) : (s.extract 0 n).size = n := by
  rw [size_eq, extract_data, List.length_take, List.length_drop, ← size_eq]
  omega

theorem get_head (s : ByteArray) (n i : Nat) (h : i < n) : (s.extract 0 n).get! i = s.get! i := by
  rw [← getD_get!', ← getD_get!', extract_data]
  simp [List.getD, h]

/-- An ASCII byte behind a head of s turns no rune of that head. -/
theorem decode_head (s : ByteArray) (n pos : Nat) (hn : n < s.size) (ha : (s.get! n).toNat < 128) (hp : pos < n) :
    Utf8.decode (s.extract 0 (n + 1)) pos = Utf8.decode (s.extract 0 n) pos := by
  rw [decode_at, decode_at, size_head s n (by omega), size_head s (n + 1) (by omega), get_head s n pos hp, get_head s (n + 1) pos (by omega)]
  have key : ∀ k, (k < n + 1 - pos ∧ ((s.extract 0 (n + 1)).get! (pos + k)).toNat / 64 = 2) ↔ (k < n - pos ∧ ((s.extract 0 n).get! (pos + k)).toNat / 64 = 2) := by
    intro k
    by_cases h : pos + k < n
    · rw [get_head s n _ h, get_head s (n + 1) _ (by omega)]
      exact ⟨fun ⟨_, b⟩ => ⟨by omega, b⟩, fun ⟨_, b⟩ => ⟨by omega, b⟩⟩
    · by_cases h' : pos + k = n
      · rw [h', get_head s (n + 1) n (by omega)]
        exact ⟨fun ⟨_, b⟩ => by omega, fun ⟨a, _⟩ => by omega⟩
      · exact ⟨fun ⟨a, _⟩ => by omega, fun ⟨a, _⟩ => by omega⟩
  have eqs : ∀ k, k < n + 1 - pos → k < n - pos → ((s.extract 0 (n + 1)).get! (pos + k)).toNat = ((s.extract 0 n).get! (pos + k)).toNat := by
    intro k _ h
    rw [get_head s n _ (by omega), get_head s (n + 1) _ (by omega)]
  exact decodeN_same _ _ _ _ _ _ _ _ _ (key 1) (eqs 1) (key 2) (eqs 2) (key 3) (eqs 3)

theorem get_bang (s : ByteArray) (i : Nat) (h : i < s.size) : s.get! i = s[i]'h := by
  cases s with | mk d => exact getElem!_pos d i h

theorem count_snoc (s : ByteArray) (n : Nat) (hn : n < s.size) (ha : (s.get! n).toNat < 128) :
    ∀ fuel pos, pos ≤ n → n ≤ pos + fuel → runeCountFrom (s.extract 0 (n + 1)) (fuel + 1) pos = runeCountFrom (s.extract 0 n) fuel pos + 1
  | 0, pos, h1, h2 => by
    have e : pos = n := by omega
    subst e
    have hz := size_head s (pos + 1) (by omega)
    have hb : ((s.extract 0 (pos + 1))[pos]'(by omega)).toNat < 128 := by
      rw [← get_bang, get_head s (pos + 1) pos (by omega)]; exact ha
    simp only [runeCountFrom]
    rw [if_pos (by omega)]
  | fuel + 1, pos, h1, h2 => by
    have hz := size_head s (n + 1) (by omega)
    have hz' := size_head s n (by omega)
    by_cases e : pos = n
    · subst e
      have hb : ((s.extract 0 (pos + 1))[pos]'(by omega)).toNat < 128 := by
        rw [← get_bang, get_head s (pos + 1) pos (by omega)]; exact ha
      rw [runeCountFrom_end (s.extract 0 pos) _ pos (by omega)]
      unfold runeCountFrom
      rw [if_pos (by omega), decode_ascii _ pos (by omega) hb, runeCountFrom_end _ _ _ (by omega)]
    · have hp : pos < n := by omega
      have hd := decode_head s n pos hn ha hp
      have hi := width_in (s.extract 0 n) pos (by omega)
      have h1 := decode_width_pos (s.extract 0 n) pos (by omega)
      unfold runeCountFrom
      rw [if_pos (by omega), if_pos (by omega), hd, count_snoc s n hn ha fuel _ (by omega) (by omega)]
      omega

/-- Over an ASCII byte the count grows by one. -/
theorem runeCount_snoc (s : ByteArray) (n : Nat) (hn : n < s.size) (ha : (s.get! n).toNat < 128) :
    runeCount (s.extract 0 (n + 1)) = runeCount (s.extract 0 n) + 1 := by
  unfold runeCount
  rw [size_head s n (by omega), size_head s (n + 1) (by omega)]
  exact count_snoc s n hn ha n 0 (by omega) (by omega)

theorem count_ge (s : ByteArray) : ∀ fuel pos, s.size ≤ pos + fuel → s.size ≤ pos + 4 * runeCountFrom s fuel pos
  | 0, pos, h => by simp [runeCountFrom]; omega
  | fuel + 1, pos, h => by
    unfold runeCountFrom
    by_cases hp : pos < s.size
    · have h4 := width_le4 s pos
      have h1 := decode_width_pos s pos hp
      have ih := count_ge s fuel (pos + (Utf8.decode s pos).2) (by omega)
      rw [if_pos hp]
      omega
    · omega

theorem runeCount_ge (s : ByteArray) : s.size ≤ 4 * runeCount s := by
  have := count_ge s s.size 0 (by omega)
  unfold runeCount
  omega

theorem runeCount_head_le (s : ByteArray) (n : Nat) (hn : n ≤ s.size) : runeCount (s.extract 0 n) ≤ n := by
  have := runeCount_le (s.extract 0 n)
  rw [size_head s n hn] at this
  exact this

theorem runeCount_head_ge (s : ByteArray) (n : Nat) (hn : n ≤ s.size) : n ≤ 4 * runeCount (s.extract 0 n) := by
  have := runeCount_ge (s.extract 0 n)
  rw [size_head s n hn] at this
  exact this

theorem runeCount_head_ascii (s : ByteArray) (n : Nat) (hn : n ≤ s.size) (ha : ∀ j, j < n → (s.get! j).toNat < 128) : runeCount (s.extract 0 n) = n := by
  rw [runeCount_ascii (s.extract 0 n) ?_, size_head s n hn]
  intro j h
  rw [size_head s n hn] at h
  rw [← get_bang, get_head s n j h]
  exact ha j h

theorem head_head (s : ByteArray) (n : Nat) : (s.extract 0 n).extract 0 n = s.extract 0 n := by
  apply ByteArray.ext
  apply Array.toList_inj.mp
  rw [extract_data, extract_data]
  simp [List.take_take]

end Go.Proofs.Qxb6605946a.Runes
