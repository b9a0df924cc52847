/-
  Walks of the two matchers of a literal pattern: matchText (with strings.HasPrefix, CutPrefix), the closure of MatchAny, and the law's own zzMatchesLiteral.
-/
import Derived.Test.Qxb6605946aRows
import Derived.Test.Qxb6605946aRunes
import Derived.WalkKit
import Derived.ProofKit
import Derived.WalkSpells
import Derived.WalkSmall
import Derived.LoopTactic
import Derived.Outline
import Derived.Deep.QuietTactic
import Derived.BigQuiet
import Derived.Lib.Strings
namespace Go.Proofs.Qxb6605946a
open Go.RowKit
set_option linter.unusedVariables false

/-- s begins with lit. -/
def preB (lit s : ByteArray) : Bool := decide (lit.size ≤ s.size) && ((s.extract 0 lit.size).toList == lit.toList)

/-- The meaning of a literal pattern with a tail. -/
def matchB (lit : ByteArray) (t : Nat) (s : ByteArray) : Bool :=
  preB lit s && (if t = 0 then s.size == lit.size else if t = 1 then (s.size == lit.size || s.get! lit.size == 58) else true)

theorem preB_size {lit s : ByteArray} (h : preB lit s = true) : lit.size ≤ s.size := by
  simp [preB] at h; exact h.1
theorem preB_list {lit s : ByteArray} (h : preB lit s = true) : ((s.extract 0 lit.size).toList == lit.toList) = true := by
  simp [preB] at h; simpa using h.2
theorem preB_not {lit s : ByteArray} (h : preB lit s = false) (hs : lit.size ≤ s.size) : ((s.extract 0 lit.size).toList == lit.toList) = false := by
  simp [preB, hs] at h; simpa using h

theorem hp_yes (s p : ByteArray) (w : World) (hs : s.size ≤ maxLen) (h : preB p s = true) :
    Calls Try.prog 39 #[.string s, .string p] w fun e w' => e = .returned (.bool true) ∧ w = w' := by
  have h1 := preB_size h
  have h2 := preB_list h
  unfold maxLen at hs
  clear h
  go_enter Try.func39, Try.ntmps39
  go_wp2
  go_ret
  exact ⟨rfl, rfl⟩

theorem hp_no (s p : ByteArray) (w : World) (hs : s.size ≤ maxLen) (hp : p.size ≤ maxLen) (h : preB p s = false) :
    Calls Try.prog 39 #[.string s, .string p] w fun e w' => e = .returned (.bool false) ∧ w = w' := by
  unfold maxLen at hs hp
  by_cases h1 : p.size ≤ s.size
  · have h2 := preB_not h h1
    clear h
    go_enter Try.func39, Try.ntmps39
    go_wp2
    go_ret
    exact ⟨rfl, rfl⟩
  · clear h
    go_enter Try.func39, Try.ntmps39
    go_wp2
    go_ret
    exact ⟨by simp, rfl⟩

/-! ### plain -/
theorem eq0 (lit s : ByteArray) : (s.toList == lit.toList) = matchB lit 0 s := by
  unfold matchB
  rw [if_pos rfl]
  by_cases h : s = lit
  · subst h
    have : preB s s = true := by
      unfold preB
      rw [Lib.extract_toList, Lib.toList_data, Nat.sub_zero, List.drop_zero, List.take_of_length_le (by rw [← Lib.size_eq]; exact Nat.le_refl _)]
      simp
    simp [this]
  · have h1 : (s.toList == lit.toList) = false := by
      rw [beq_eq_false_iff_ne]
      intro hc
      apply h
      rw [Lib.toList_data, Lib.toList_data] at hc
      exact ByteArray.ext (Array.toList_inj.mp hc)
    rw [h1]
    by_cases h2 : preB lit s = true
    · by_cases h3 : s.size = lit.size
      · exfalso
        have := preB_list h2
        rw [← h3, Lib.extract_toList, Lib.toList_data, Nat.sub_zero, List.drop_zero, Lib.size_eq, List.take_length] at this
        rw [beq_iff_eq, ← Lib.toList_data] at this
        rw [Lib.toList_data] at this
        apply h
        exact ByteArray.ext (Array.toList_inj.mp this)
      · simp [h3]
    · simp at h2; simp [h2]

theorem rest_size (s : ByteArray) (n : Nat) : (s.extract n s.size).size = s.size - n := Lib.tail_size s n

theorem rest_nil (s : ByteArray) (n : Nat) (h : s.size = n) : (s.extract n s.size).toList.isEmpty = true := by
  rw [Lib.extract_toList, h]; simp

theorem rest_cons (s : ByteArray) (n : Nat) (h : n < s.size) : (s.extract n s.size).toList.isEmpty = false := by
  rw [Lib.extract_toList]
  cases hc : (s.data.toList.drop n).take (s.size - n) with
  | nil =>
    have := congrArg List.length hc
    rw [List.length_take, List.length_drop, ← Lib.size_eq] at this
    simp at this
    omega
  | cons _ _ => rfl

theorem match_no {lit s : ByteArray} (t : Nat) (h : preB lit s = false) : matchB lit t s = false := by simp [matchB, h]
theorem match_1_eq {lit s : ByteArray} (h : preB lit s = true) (he : s.size = lit.size) : matchB lit 1 s = true := by simp [matchB, h, he]
theorem match_1_ne {lit s : ByteArray} (h : preB lit s = true) (he : lit.size < s.size) : matchB lit 1 s = (s.get! lit.size == 58) := by
  have : (s.size == lit.size) = false := by rw [beq_eq_false_iff_ne]; omega
  simp [matchB, h, this]
theorem match_2 {lit s : ByteArray} (t : Nat) (h0 : t ≠ 0) (h1 : t ≠ 1) : matchB lit t s = preB lit s := by simp [matchB, h0, h1]

theorem byte_beq (b : UInt8) (n : Nat) (h : n < 256) : ((b.toNat : Int) == (n : Int)) = (b == n.toUInt8) := by
  rw [Bool.eq_iff_iff, beq_iff_eq, beq_iff_eq]
  constructor
  · intro hh
    apply UInt8.toNat_inj.mp
    rw [show n.toUInt8.toNat = n from by simp [Nat.toUInt8]; omega]
    omega
  · intro hh
    rw [hh, show n.toUInt8.toNat = n from by simp [Nat.toUInt8]; omega]

theorem rest_head (s : ByteArray) (n : Nat) (h : 0 < (s.extract n s.size).size) : ((((s.extract n s.size)[0]'h).toNat : Int) == 58) = (s.get! n == 58) := by
  have e : (s.extract n s.size)[0]'h = s.get! n := by rw [← Runes.get_bang, Lib.tail_get!, Nat.add_zero]
  rw [e]
  exact byte_beq (s.get! n) 58 (by decide)

theorem ret_bools {a b : Bool} (h : a = b) : Ending.returned (.bool a) = .returned (.bool b) := by rw [h]

/-! ### matchText -/
set_option maxHeartbeats 1000000 in
theorem text_0 (lit s : ByteArray) (w : World) :
    Calls Try.prog 28 #[.string lit, .int .u8 0, .string s] w fun e w' => e = .returned (.bool (matchB lit 0 s)) ∧ w = w' := by
  have he := eq0 lit s
  rw [← he]
  clear he
  go_enter Try.func28, Try.ntmps28
  go_wp2
  go_ret
  exact ⟨rfl, rfl⟩

set_option maxHeartbeats 1000000 in
theorem text_1 (lit s : ByteArray) (w : World) (hs : s.size ≤ maxLen) (hl : lit.size ≤ maxLen) :
    Calls Try.prog 28 #[.string lit, .int .u8 1, .string s] w fun e w' => e = .returned (.bool (matchB lit 1 s)) ∧ w = w' := by
  by_cases h : preB lit s = true
  · have h1 := preB_size h
    have hm : lit.size ≤ 9223372036854775807 := by unfold maxLen at hl; exact hl
    have hms : s.size ≤ 9223372036854775807 := by unfold maxLen at hs; exact hs
    by_cases he : s.size = lit.size
    · rw [match_1_eq h he]
      have hr := rest_nil s lit.size he
      have HE : Hid (s.size = lit.size) := he
      have h2 : s.size ≤ lit.size := by omega
      clear he
      go_enter Try.func28, Try.ntmps28
      go_wp2_with (first | (go_at_call 39; refine (hp_yes _ _ _ hs h).mono ?_; rintro e w' ⟨rfl, rfl⟩) | go_in)
      go_ret
      exact ⟨by simp, rfl⟩
    · rw [match_1_ne h (by omega)]
      have hlt : lit.size < s.size := by omega
      have hr := rest_cons s lit.size hlt
      have hrs := rest_size s lit.size
      clear he
      go_enter Try.func28, Try.ntmps28
      go_wp2_with (first | (go_at_call 39; refine (hp_yes _ _ _ hs h).mono ?_; rintro e w' ⟨rfl, rfl⟩) | go_in)
      go_ret
      exact ⟨ret_bools (rest_head s lit.size (by omega)), rfl⟩
  · simp only [Bool.not_eq_true] at h
    rw [match_no 1 h]
    go_enter Try.func28, Try.ntmps28
    go_wp2_with (first | (go_at_call 39; refine (hp_no _ _ _ hs hl h).mono ?_; rintro e w' ⟨rfl, rfl⟩) | go_in)
    go_ret
    exact ⟨by simp, rfl⟩

set_option maxHeartbeats 1000000 in
theorem text_2 (lit s : ByteArray) (w : World) (hs : s.size ≤ maxLen) (hl : lit.size ≤ maxLen) :
    Calls Try.prog 28 #[.string lit, .int .u8 2, .string s] w fun e w' => e = .returned (.bool (matchB lit 2 s)) ∧ w = w' := by
  rw [match_2 2 (by decide) (by decide)]
  by_cases h : preB lit s = true
  · rw [h]
    go_enter Try.func28, Try.ntmps28
    go_wp2_with (first | (go_at_call 39; refine (hp_yes _ _ _ hs h).mono ?_; rintro e w' ⟨rfl, rfl⟩) | go_in)
    go_ret
    exact ⟨rfl, rfl⟩
  · simp only [Bool.not_eq_true] at h
    rw [h]
    go_enter Try.func28, Try.ntmps28
    go_wp2_with (first | (go_at_call 39; refine (hp_no _ _ _ hs hl h).mono ?_; rintro e w' ⟨rfl, rfl⟩) | go_in)
    go_ret
    exact ⟨rfl, rfl⟩

/-- matchText is matchB. -/
theorem text_any (lit s : ByteArray) (t : Nat) (w : World) (hs : s.size ≤ maxLen) (hl : lit.size ≤ maxLen) (ht : t ≤ 2) :
    Calls Try.prog 28 #[.string lit, .int .u8 t, .string s] w fun e w' => e = .returned (.bool (matchB lit t s)) ∧ w = w' := by
  rcases (show t = 0 ∨ t = 1 ∨ t = 2 by omega) with rfl | rfl | rfl
  · exact text_0 lit s w
  · exact text_1 lit s w hs hl
  · exact text_2 lit s w hs hl

set_option maxHeartbeats 1000000 in
/-- The closure that MatchAny hands to slices.ContainsFunc: its captured variables hold lit and the tail. -/
theorem closure_any (lit s : ByteArray) (t : Nat) (p q : Addr) (w : World) (hs : s.size ≤ maxLen) (hl : lit.size ≤ maxLen) (ht : t ≤ 2)
    (hp : w.cell? p = some (.string lit)) (hq : w.cell? q = some (.int .u8 t)) :
    Calls Try.prog 27 #[.string s, .pointer (some p), .pointer (some q)] w fun e w' => e = .returned (.bool (matchB lit t s)) ∧ w = w' := by
  go_enter Try.func27, Try.ntmps27
  go_wp2_with (go_at_call 28; refine (text_any lit s t _ hs hl ht).mono ?_; rintro e w' ⟨rfl, rfl⟩)
  go_ret
  exact ⟨rfl, rfl⟩

/-! ### zzMatchesLiteral -/
theorem pre_of_all (lit s : ByteArray) (h : lit.size ≤ s.size) (ha : ∀ j, j < lit.size → s.get! j = lit.get! j) : preB lit s = true := by
  unfold preB
  simp only [h, decide_true, Bool.true_and, beq_iff_eq]
  rw [Lib.extract_toList, Lib.toList_data, Nat.sub_zero, List.drop_zero]
  apply List.ext_getElem?
  intro j
  by_cases hj : j < lit.size
  · have h1 := ha j hj
    rw [← Lib.getD_get!', ← Lib.getD_get!'] at h1
    have l1 : j < s.data.toList.length := by rw [← Lib.size_eq]; omega
    have l2 : j < lit.data.toList.length := by rw [← Lib.size_eq]; omega
    simp only [List.getD, List.getElem?_eq_getElem l1, List.getElem?_eq_getElem l2, Option.getD_some] at h1
    rw [List.getElem?_take, if_pos hj, List.getElem?_eq_getElem l1, List.getElem?_eq_getElem l2, h1]
  · rw [List.getElem?_take, if_neg hj, List.getElem?_eq_none (by rw [← Lib.size_eq]; omega)]

theorem pre_not (lit s : ByteArray) (j : Nat) (hj : j < lit.size) (hne : ¬ s.get! j = lit.get! j) : preB lit s = false := by
  cases hp : preB lit s with
  | false => rfl
  | true =>
    exfalso
    apply hne
    have h1 := preB_size hp
    have h2 := preB_list hp
    rw [beq_iff_eq, Lib.toList_data, Lib.toList_data] at h2
    have h3 := Runes.get_head s lit.size j hj
    rw [← h3, ← Lib.getD_get!', ← Lib.getD_get!', h2]

theorem byte_ne {s lit : ByteArray} {k : Nat} (h1 : k < s.size) (h2 : k < lit.size) (h : ((s[k].toNat : Int) != (lit[k].toNat : Int)) = true) : ¬ s.get! k = lit.get! k := by
  rw [Runes.get_bang s k h1, Runes.get_bang lit k h2]
  intro hc
  rw [hc] at h
  simp at h

theorem all_eq {s lit : ByteArray} {k : Nat} (h : ∀ j, j < k → s.get! j = lit.get! j) (h1 : k < s.size) (h2 : k < lit.size) (he : ((s[k].toNat : Int) != (lit[k].toNat : Int)) = false) : ∀ j, j < k + 1 → s.get! j = lit.get! j := by
  intro j hj
  by_cases e : j = k
  · subst e
    rw [Runes.get_bang s j h1, Runes.get_bang lit j h2]
    apply UInt8.toNat_inj.mp
    have he2 : (s[j].toNat : Int) = (lit[j].toNat : Int) := by simpa using he
    omega
  · exact h j (by omega)

theorem match_0 {lit s : ByteArray} (h : preB lit s = true) : matchB lit 0 s = ((s.size : Int) == (lit.size : Int)) := by
  simp only [matchB, h, Bool.true_and, if_true]
  rw [Bool.eq_iff_iff, beq_iff_eq, beq_iff_eq]
  omega

set_option maxHeartbeats 1000000 in
set_option maxRecDepth 10000 in
theorem lit_any (lit s : ByteArray) (t : Nat) (w : World) (hs : s.size ≤ 1048576) (hl : lit.size ≤ 1048576) (ht : t ≤ 2) :
    Calls Try.prog 29 #[.string lit, .int .u8 t, .string s] w fun e w' => e = .returned (.bool (matchB lit t s)) ∧ Below w.heap.size w w' := by
  by_cases h : lit.size ≤ s.size
  · go_enter Try.func29, Try.ntmps29
    go_wp2
    go_loopw [8] (fun i w' => ∃ k : Nat, k ≤ lit.size ∧ i = .int .i64 k ∧ (∀ j, j < k → s.get! j = lit.get! j) ∧ Below w.heap.size w w') (fun i _ => lit.size - (intOf i).toNat)
    case atStart => exact ⟨0, Nat.zero_le _, rfl, fun j hj => absurd hj (Nat.not_lt_zero _), Below.refl _ _⟩
    case round =>
      obtain ⟨k, hk, rfl, hall, hb⟩ := hrel
      have HA : Hid (∀ j, j < k → s.get! j = lit.get! j) := hall
      clear hall
      by_cases hlt : k < lit.size
      · have hks : k < s.size := by omega
        go_wp2
        go_quiet (fail)
        go_wp2
        case roundEnd =>
          go_roundw
          case rel => exact ⟨k + 1, by omega, by go_num, all_eq HA.out hks hlt (by assumption), below_drewN hb _⟩
          case measure => simp [intOf]; omega
        · go_ret
          exact ⟨ret_bools (match_no t (pre_not lit s k hlt (byte_ne hks hlt (by assumption)))).symm, below_drewN hb _⟩
      · have hkn : k = lit.size := by omega
        subst hkn
        have hp := pre_of_all lit s h HA.out
        have HP : Hid (preB lit s = true) := hp
        clear hp HA
        rcases (show t = 0 ∨ t = 1 ∨ t = 2 by omega) with rfl | rfl | rfl
        · go_wp2
          go_ret
          exact ⟨ret_bools (match_0 HP.out).symm, hb⟩
        · by_cases he : s.size = lit.size
          · have he' : ((s.size : Int) == (lit.size : Int)) = true := by simp [he]
            have HE : Hid (s.size = lit.size) := he
            clear he
            go_wp2
            go_ret
            exact ⟨ret_bools (match_1_eq HP.out HE.out).symm, hb⟩
          · have he' : ((s.size : Int) == (lit.size : Int)) = false := by simp; omega
            have hlt2 : lit.size < s.size := by omega
            clear he
            go_wp2
            go_ret
            refine ⟨ret_bools ?_, hb⟩
            rw [match_1_ne HP.out hlt2, Runes.get_bang s lit.size hlt2]
            exact byte_beq _ 58 (by decide)
        · go_wp2
          go_ret
          refine ⟨ret_bools ?_, hb⟩
          rw [match_2 2 (by decide) (by decide), HP.out]
  · rw [match_no t (by simp [preB]; omega)]
    go_enter Try.func29, Try.ntmps29
    go_wp2
    go_ret
    exact ⟨rfl, Below.refl _ _⟩
end Go.Proofs.Qxb6605946a
