/-
  zzDecode joined over all lead bytes; zzCountChars; the walk of FnCharNumberCountsCharacters.
-/
import Derived.Test.Qxb6605946aDecode
import Derived.Test.Qxb6605946aWidths
import Derived.Test.Qxb6605946aCharNumber
import Derived.RegionTactic
import Derived.Deep.RegionWith
namespace Go.Proofs.Qxb6605946a
open Go.RowKit
set_option linter.unusedVariables false

theorem dec_leaf {s : ByteArray} {i : Nat} {w : World} (k : Nat) (e : (Utf8.decode s i).2 = k)
    (c : Calls Try.prog 31 #[.string s, .int .i64 i] w fun e w' => Wide w (k : Int) e w') :
    Calls Try.prog 31 #[.string s, .int .i64 i] w fun e w' => Wide w ((Utf8.decode s i).2 : Int) e w' := by
  rw [e]; exact c

theorem join_C (s : ByteArray) (i : Nat) (w : World) (hs : s.size ≤ 1048576) (h : i < s.size) (b0 : Int) (hb : (s[i].toNat : Int) = b0) (h1 : 194 ≤ b0) (h2 : b0 ≤ 223) :
    Calls Try.prog 31 #[.string s, .int .i64 i] w fun e w' => Wide w ((Utf8.decode s i).2 : Int) e w' := by
  by_cases hn : i + 1 < s.size
  · by_cases y1 : 128 ≤ (s[i+1].toNat : Int) ∧ (s[i+1].toNat : Int) ≤ 191
    · exact dec_leaf 2 (Runes.wid_C_yes s i h b0 hb h1 h2 hn y1.1 y1.2) (dec_C_yes s i w hs h b0 hb h1 h2 hn y1.1 y1.2)
    · exact dec_leaf 1 (Runes.wid_C_no s i h b0 hb h1 h2 hn y1) (dec_C_no s i w hs h b0 hb h1 h2 hn y1)
  · have hm : s.size < i + 2 := by omega
    exact dec_leaf 1 (Runes.wid_C_short s i h b0 hb h1 h2 hm) (dec_C_short s i w hs h b0 hb h1 h2 hm)

theorem join_E0 (s : ByteArray) (i : Nat) (w : World) (hs : s.size ≤ 1048576) (h : i < s.size) (b0 : Int) (hb : (s[i].toNat : Int) = b0) (h1 : 224 ≤ b0) (h2 : b0 ≤ 224) :
    Calls Try.prog 31 #[.string s, .int .i64 i] w fun e w' => Wide w ((Utf8.decode s i).2 : Int) e w' := by
  by_cases hn : i + 2 < s.size
  · by_cases y1 : 160 ≤ (s[i+1].toNat : Int) ∧ (s[i+1].toNat : Int) ≤ 191
    · by_cases y2 : 128 ≤ (s[i+2].toNat : Int) ∧ (s[i+2].toNat : Int) ≤ 191
      · exact dec_leaf 3 (Runes.wid_E0_yes s i h b0 hb h1 h2 hn y1.1 y1.2 y2.1 y2.2) (dec_E0_yes s i w hs h b0 hb h1 h2 hn y1.1 y1.2 y2.1 y2.2)
      · exact dec_leaf 1 (Runes.wid_E0_no2 s i h b0 hb h1 h2 hn y1.1 y1.2 y2) (dec_E0_no2 s i w hs h b0 hb h1 h2 hn y1.1 y1.2 y2)
    · exact dec_leaf 1 (Runes.wid_E0_no1 s i h b0 hb h1 h2 hn y1) (dec_E0_no1 s i w hs h b0 hb h1 h2 hn y1)
  · have hm : s.size < i + 3 := by omega
    exact dec_leaf 1 (Runes.wid_E0_short s i h b0 hb h1 h2 hm) (dec_E0_short s i w hs h b0 hb h1 h2 hm)

theorem join_E1 (s : ByteArray) (i : Nat) (w : World) (hs : s.size ≤ 1048576) (h : i < s.size) (b0 : Int) (hb : (s[i].toNat : Int) = b0) (h1 : 225 ≤ b0) (h2 : b0 ≤ 236) :
    Calls Try.prog 31 #[.string s, .int .i64 i] w fun e w' => Wide w ((Utf8.decode s i).2 : Int) e w' := by
  by_cases hn : i + 2 < s.size
  · by_cases y1 : 128 ≤ (s[i+1].toNat : Int) ∧ (s[i+1].toNat : Int) ≤ 191
    · by_cases y2 : 128 ≤ (s[i+2].toNat : Int) ∧ (s[i+2].toNat : Int) ≤ 191
      · exact dec_leaf 3 (Runes.wid_E1_yes s i h b0 hb h1 h2 hn y1.1 y1.2 y2.1 y2.2) (dec_E1_yes s i w hs h b0 hb h1 h2 hn y1.1 y1.2 y2.1 y2.2)
      · exact dec_leaf 1 (Runes.wid_E1_no2 s i h b0 hb h1 h2 hn y1.1 y1.2 y2) (dec_E1_no2 s i w hs h b0 hb h1 h2 hn y1.1 y1.2 y2)
    · exact dec_leaf 1 (Runes.wid_E1_no1 s i h b0 hb h1 h2 hn y1) (dec_E1_no1 s i w hs h b0 hb h1 h2 hn y1)
  · have hm : s.size < i + 3 := by omega
    exact dec_leaf 1 (Runes.wid_E1_short s i h b0 hb h1 h2 hm) (dec_E1_short s i w hs h b0 hb h1 h2 hm)

theorem join_ED (s : ByteArray) (i : Nat) (w : World) (hs : s.size ≤ 1048576) (h : i < s.size) (b0 : Int) (hb : (s[i].toNat : Int) = b0) (h1 : 237 ≤ b0) (h2 : b0 ≤ 237) :
    Calls Try.prog 31 #[.string s, .int .i64 i] w fun e w' => Wide w ((Utf8.decode s i).2 : Int) e w' := by
  by_cases hn : i + 2 < s.size
  · by_cases y1 : 128 ≤ (s[i+1].toNat : Int) ∧ (s[i+1].toNat : Int) ≤ 159
    · by_cases y2 : 128 ≤ (s[i+2].toNat : Int) ∧ (s[i+2].toNat : Int) ≤ 191
      · exact dec_leaf 3 (Runes.wid_ED_yes s i h b0 hb h1 h2 hn y1.1 y1.2 y2.1 y2.2) (dec_ED_yes s i w hs h b0 hb h1 h2 hn y1.1 y1.2 y2.1 y2.2)
      · exact dec_leaf 1 (Runes.wid_ED_no2 s i h b0 hb h1 h2 hn y1.1 y1.2 y2) (dec_ED_no2 s i w hs h b0 hb h1 h2 hn y1.1 y1.2 y2)
    · exact dec_leaf 1 (Runes.wid_ED_no1 s i h b0 hb h1 h2 hn y1) (dec_ED_no1 s i w hs h b0 hb h1 h2 hn y1)
  · have hm : s.size < i + 3 := by omega
    exact dec_leaf 1 (Runes.wid_ED_short s i h b0 hb h1 h2 hm) (dec_ED_short s i w hs h b0 hb h1 h2 hm)

theorem join_EE (s : ByteArray) (i : Nat) (w : World) (hs : s.size ≤ 1048576) (h : i < s.size) (b0 : Int) (hb : (s[i].toNat : Int) = b0) (h1 : 238 ≤ b0) (h2 : b0 ≤ 239) :
    Calls Try.prog 31 #[.string s, .int .i64 i] w fun e w' => Wide w ((Utf8.decode s i).2 : Int) e w' := by
  by_cases hn : i + 2 < s.size
  · by_cases y1 : 128 ≤ (s[i+1].toNat : Int) ∧ (s[i+1].toNat : Int) ≤ 191
    · by_cases y2 : 128 ≤ (s[i+2].toNat : Int) ∧ (s[i+2].toNat : Int) ≤ 191
      · exact dec_leaf 3 (Runes.wid_EE_yes s i h b0 hb h1 h2 hn y1.1 y1.2 y2.1 y2.2) (dec_EE_yes s i w hs h b0 hb h1 h2 hn y1.1 y1.2 y2.1 y2.2)
      · exact dec_leaf 1 (Runes.wid_EE_no2 s i h b0 hb h1 h2 hn y1.1 y1.2 y2) (dec_EE_no2 s i w hs h b0 hb h1 h2 hn y1.1 y1.2 y2)
    · exact dec_leaf 1 (Runes.wid_EE_no1 s i h b0 hb h1 h2 hn y1) (dec_EE_no1 s i w hs h b0 hb h1 h2 hn y1)
  · have hm : s.size < i + 3 := by omega
    exact dec_leaf 1 (Runes.wid_EE_short s i h b0 hb h1 h2 hm) (dec_EE_short s i w hs h b0 hb h1 h2 hm)

theorem join_F0 (s : ByteArray) (i : Nat) (w : World) (hs : s.size ≤ 1048576) (h : i < s.size) (b0 : Int) (hb : (s[i].toNat : Int) = b0) (h1 : 240 ≤ b0) (h2 : b0 ≤ 240) :
    Calls Try.prog 31 #[.string s, .int .i64 i] w fun e w' => Wide w ((Utf8.decode s i).2 : Int) e w' := by
  by_cases hn : i + 3 < s.size
  · by_cases y1 : 144 ≤ (s[i+1].toNat : Int) ∧ (s[i+1].toNat : Int) ≤ 191
    · by_cases y2 : 128 ≤ (s[i+2].toNat : Int) ∧ (s[i+2].toNat : Int) ≤ 191
      · by_cases y3 : 128 ≤ (s[i+3].toNat : Int) ∧ (s[i+3].toNat : Int) ≤ 191
        · exact dec_leaf 4 (Runes.wid_F0_yes s i h b0 hb h1 h2 hn y1.1 y1.2 y2.1 y2.2 y3.1 y3.2) (dec_F0_yes s i w hs h b0 hb h1 h2 hn y1.1 y1.2 y2.1 y2.2 y3.1 y3.2)
        · exact dec_leaf 1 (Runes.wid_F0_no3 s i h b0 hb h1 h2 hn y1.1 y1.2 y2.1 y2.2 y3) (dec_F0_no3 s i w hs h b0 hb h1 h2 hn y1.1 y1.2 y2.1 y2.2 y3)
      · exact dec_leaf 1 (Runes.wid_F0_no2 s i h b0 hb h1 h2 hn y1.1 y1.2 y2) (dec_F0_no2 s i w hs h b0 hb h1 h2 hn y1.1 y1.2 y2)
    · exact dec_leaf 1 (Runes.wid_F0_no1 s i h b0 hb h1 h2 hn y1) (dec_F0_no1 s i w hs h b0 hb h1 h2 hn y1)
  · have hm : s.size < i + 4 := by omega
    exact dec_leaf 1 (Runes.wid_F0_short s i h b0 hb h1 h2 hm) (dec_F0_short s i w hs h b0 hb h1 h2 hm)

theorem join_F1 (s : ByteArray) (i : Nat) (w : World) (hs : s.size ≤ 1048576) (h : i < s.size) (b0 : Int) (hb : (s[i].toNat : Int) = b0) (h1 : 241 ≤ b0) (h2 : b0 ≤ 243) :
    Calls Try.prog 31 #[.string s, .int .i64 i] w fun e w' => Wide w ((Utf8.decode s i).2 : Int) e w' := by
  by_cases hn : i + 3 < s.size
  · by_cases y1 : 128 ≤ (s[i+1].toNat : Int) ∧ (s[i+1].toNat : Int) ≤ 191
    · by_cases y2 : 128 ≤ (s[i+2].toNat : Int) ∧ (s[i+2].toNat : Int) ≤ 191
      · by_cases y3 : 128 ≤ (s[i+3].toNat : Int) ∧ (s[i+3].toNat : Int) ≤ 191
        · exact dec_leaf 4 (Runes.wid_F1_yes s i h b0 hb h1 h2 hn y1.1 y1.2 y2.1 y2.2 y3.1 y3.2) (dec_F1_yes s i w hs h b0 hb h1 h2 hn y1.1 y1.2 y2.1 y2.2 y3.1 y3.2)
        · exact dec_leaf 1 (Runes.wid_F1_no3 s i h b0 hb h1 h2 hn y1.1 y1.2 y2.1 y2.2 y3) (dec_F1_no3 s i w hs h b0 hb h1 h2 hn y1.1 y1.2 y2.1 y2.2 y3)
      · exact dec_leaf 1 (Runes.wid_F1_no2 s i h b0 hb h1 h2 hn y1.1 y1.2 y2) (dec_F1_no2 s i w hs h b0 hb h1 h2 hn y1.1 y1.2 y2)
    · exact dec_leaf 1 (Runes.wid_F1_no1 s i h b0 hb h1 h2 hn y1) (dec_F1_no1 s i w hs h b0 hb h1 h2 hn y1)
  · have hm : s.size < i + 4 := by omega
    exact dec_leaf 1 (Runes.wid_F1_short s i h b0 hb h1 h2 hm) (dec_F1_short s i w hs h b0 hb h1 h2 hm)

theorem join_F4 (s : ByteArray) (i : Nat) (w : World) (hs : s.size ≤ 1048576) (h : i < s.size) (b0 : Int) (hb : (s[i].toNat : Int) = b0) (h1 : 244 ≤ b0) (h2 : b0 ≤ 244) :
    Calls Try.prog 31 #[.string s, .int .i64 i] w fun e w' => Wide w ((Utf8.decode s i).2 : Int) e w' := by
  by_cases hn : i + 3 < s.size
  · by_cases y1 : 128 ≤ (s[i+1].toNat : Int) ∧ (s[i+1].toNat : Int) ≤ 143
    · by_cases y2 : 128 ≤ (s[i+2].toNat : Int) ∧ (s[i+2].toNat : Int) ≤ 191
      · by_cases y3 : 128 ≤ (s[i+3].toNat : Int) ∧ (s[i+3].toNat : Int) ≤ 191
        · exact dec_leaf 4 (Runes.wid_F4_yes s i h b0 hb h1 h2 hn y1.1 y1.2 y2.1 y2.2 y3.1 y3.2) (dec_F4_yes s i w hs h b0 hb h1 h2 hn y1.1 y1.2 y2.1 y2.2 y3.1 y3.2)
        · exact dec_leaf 1 (Runes.wid_F4_no3 s i h b0 hb h1 h2 hn y1.1 y1.2 y2.1 y2.2 y3) (dec_F4_no3 s i w hs h b0 hb h1 h2 hn y1.1 y1.2 y2.1 y2.2 y3)
      · exact dec_leaf 1 (Runes.wid_F4_no2 s i h b0 hb h1 h2 hn y1.1 y1.2 y2) (dec_F4_no2 s i w hs h b0 hb h1 h2 hn y1.1 y1.2 y2)
    · exact dec_leaf 1 (Runes.wid_F4_no1 s i h b0 hb h1 h2 hn y1) (dec_F4_no1 s i w hs h b0 hb h1 h2 hn y1)
  · have hm : s.size < i + 4 := by omega
    exact dec_leaf 1 (Runes.wid_F4_short s i h b0 hb h1 h2 hm) (dec_F4_short s i w hs h b0 hb h1 h2 hm)

/-- zzDecode at every place of every string. -/
theorem dec_any (s : ByteArray) (i : Nat) (w : World) (hs : s.size ≤ 1048576) (h : i < s.size) :
    Calls Try.prog 31 #[.string s, .int .i64 i] w fun e w' => Wide w ((Utf8.decode s i).2 : Int) e w' := by
  have hq := s[i].toNat_lt
  obtain ⟨b0, hb⟩ : ∃ b0 : Int, (s[i].toNat : Int) = b0 := ⟨_, rfl⟩
  have h0 : 0 ≤ b0 := by omega
  have h9 : b0 ≤ 255 := by omega
  by_cases gA : b0 ≤ 127
  · have h1 : 0 ≤ b0 := by omega
    have h2 : b0 ≤ 127 := by omega
    exact dec_leaf 1 (Runes.wid_A s i h b0 hb h1 h2) (dec_A s i w hs h b0 hb h1 h2)
  by_cases gB : b0 ≤ 193
  · have h1 : 128 ≤ b0 := by omega
    have h2 : b0 ≤ 193 := by omega
    exact dec_leaf 1 (Runes.wid_B s i h b0 hb h1 h2) (dec_B s i w hs h b0 hb h1 h2)
  by_cases gC : b0 ≤ 223
  · have h1 : 194 ≤ b0 := by omega
    have h2 : b0 ≤ 223 := by omega
    exact join_C s i w hs h b0 hb h1 h2
  by_cases gE0 : b0 ≤ 224
  · have h1 : 224 ≤ b0 := by omega
    have h2 : b0 ≤ 224 := by omega
    exact join_E0 s i w hs h b0 hb h1 h2
  by_cases gE1 : b0 ≤ 236
  · have h1 : 225 ≤ b0 := by omega
    have h2 : b0 ≤ 236 := by omega
    exact join_E1 s i w hs h b0 hb h1 h2
  by_cases gED : b0 ≤ 237
  · have h1 : 237 ≤ b0 := by omega
    have h2 : b0 ≤ 237 := by omega
    exact join_ED s i w hs h b0 hb h1 h2
  by_cases gEE : b0 ≤ 239
  · have h1 : 238 ≤ b0 := by omega
    have h2 : b0 ≤ 239 := by omega
    exact join_EE s i w hs h b0 hb h1 h2
  by_cases gF0 : b0 ≤ 240
  · have h1 : 240 ≤ b0 := by omega
    have h2 : b0 ≤ 240 := by omega
    exact join_F0 s i w hs h b0 hb h1 h2
  by_cases gF1 : b0 ≤ 243
  · have h1 : 241 ≤ b0 := by omega
    have h2 : b0 ≤ 243 := by omega
    exact join_F1 s i w hs h b0 hb h1 h2
  by_cases gF4 : b0 ≤ 244
  · have h1 : 244 ≤ b0 := by omega
    have h2 : b0 ≤ 244 := by omega
    exact join_F4 s i w hs h b0 hb h1 h2
  · have h1 : 245 ≤ b0 := by omega
    have h2 : b0 ≤ 255 := by omega
    exact dec_leaf 1 (Runes.wid_Z s i h b0 hb h1 h2) (dec_Z s i w hs h b0 hb h1 h2)

set_option maxHeartbeats 1000000 in
/-- zzCountChars: as many as the model's decoding counts. -/
theorem countChars_any (s : ByteArray) (w : World) (hs : s.size ≤ 1048576) :
    Calls Try.prog 22 #[.string s] w fun e w' => e = .returned (.int .i64 (Lib.runeCount s)) ∧ Below w.heap.size w w' := by
  go_enter Try.func22, Try.ntmps22
  go_wp2
  go_loopw [3, 4] (fun n i w' => ∃ (pos b acc : Nat), n = .int .i64 acc ∧ i = .int .i64 pos ∧ acc + Lib.runeCountFrom s b pos = Lib.runeCount s ∧ s.size ≤ pos + b ∧ acc ≤ pos ∧ pos ≤ s.size ∧ Below w.heap.size w w') (fun _ i _ => s.size - (intOf i).toNat)
  case atStart => exact ⟨0, s.size, 0, rfl, rfl, by simp [Lib.runeCount], by omega, Nat.le_refl _, Nat.zero_le _, Below.refl _ _⟩
  case round =>
    obtain ⟨pos, b, acc, rfl, rfl, hc, hb, ha, hp', hbel⟩ := hrel
    have HC : Hid (acc + Lib.runeCountFrom s b pos = Lib.runeCount s) := hc
    clear hc
    by_cases hp : pos < s.size
    · have hwd := Lib.decode_width_pos s pos hp
      have hwi := Runes.width_in s pos hp
      go_wp2_with (go_at_call 31; refine (dec_any s pos _ hs hp).mono ?_; rintro e w1 ⟨⟨r, rfl⟩, hb1⟩)
      go_roundw
      case rel =>
        cases b with
        | zero => omega
        | succ b =>
          refine ⟨pos + (Utf8.decode s pos).2, b, acc + 1, by go_num, by go_num, ?_, by omega, by omega, by omega, hbel.trans (hb1.mono hbel.size)⟩
          rw [← HC.out]
          simp [Lib.runeCountFrom, hp]
          omega
      case measure => simp [intOf]; omega
    · go_wp2
      go_ret
      have hc := HC.out
      rw [Lib.runeCountFrom_end s b pos hp, Nat.add_zero] at hc
      subst hc
      exact ⟨rfl, hbel⟩

/-- The two callees, their answer a plain letter. -/
theorem cn_at (s : ByteArray) (n c : Nat) (w : World) (hs : s.size ≤ 1048576) (hn : n ≤ s.size) (hc : Lib.runeCount (s.extract 0 n) = c) :
    Calls Try.prog 21 #[.string s, .int .i64 n] w fun e w' => e = .returned (.int .i64 ((c : Int) + 1)) ∧ Below w.heap.size w w' := by
  subst hc
  exact charNumber_any s n w hs hn

theorem cc_at (s : ByteArray) (n c : Nat) (w : World) (hs : s.size ≤ 1048576) (hn : n ≤ s.size) (hc : Lib.runeCount (s.extract 0 n) = c) :
    Calls Try.prog 22 #[.string (s.extract 0 n)] w fun e w' => e = .returned (.int .i64 (c : Int)) ∧ Below w.heap.size w w' := by
  subst hc
  exact countChars_any (s.extract 0 n) w (by rw [Runes.size_head s n hn]; omega)

theorem counts_far (s : ByteArray) (i : Int) (w : World) (hs : s.size ≤ maxLen) (h : 1048576 < s.size) :
    Calls Try.prog 6 #[.string s, .int .i64 i] w fun e w' => e = .returned (.bool true) ∧ Below w.heap.size w w' := by
  have hf := fits_counts s i w hs
  rw [show decide (s.size ≤ 1048576) = false from by simp; omega] at hf
  unfold maxLen at hs
  go_enter Try.func6, Try.ntmps6
  go_wp2_with (go_at_call 20; refine hf.mono ?_; rintro e w' ⟨rfl, rfl⟩)
  go_ret
  exact ⟨rfl, Below.refl _ _⟩

theorem counts_out (s : ByteArray) (i : Int) (w : World) (hs : s.size ≤ 1048576) (h : i < 0 ∨ (s.size : Int) < i) :
    Calls Try.prog 6 #[.string s, .int .i64 i] w fun e w' => e = .returned (.bool true) ∧ Below w.heap.size w w' := by
  have hf := fits_counts s i w (by unfold maxLen; omega)
  rw [show decide (s.size ≤ 1048576) = true from by simpa using hs] at hf
  rcases h with h | h
  · go_enter Try.func6, Try.ntmps6
    go_wp2_with (go_at_call 20; refine hf.mono ?_; rintro e w' ⟨rfl, rfl⟩)
    go_ret
    exact ⟨rfl, Below.refl _ _⟩
  · have h0 : ¬ i < 0 := by omega
    go_enter Try.func6, Try.ntmps6
    go_wp2_with (go_at_call 20; refine hf.mono ?_; rintro e w' ⟨rfl, rfl⟩)
    go_ret
    exact ⟨rfl, Below.refl _ _⟩

set_option maxHeartbeats 1000000 in
set_option maxRecDepth 10000 in
theorem counts_in (s : ByteArray) (n c : Nat) (w : World) (hs : s.size ≤ 1048576) (hn : n ≤ s.size) (H : Hid (Lib.runeCount (s.extract 0 n) = c)) :
    Calls Try.prog 6 #[.string s, .int .i64 n] w fun e w' => e = .returned (.bool true) ∧ Below w.heap.size w w' := by
  have hf := fits_counts s n w (by unfold maxLen; omega)
  rw [show decide (s.size ≤ 1048576) = true from by simpa using hs] at hf
  have hc1 : c ≤ n := by rw [← H.out]; exact Runes.runeCount_head_le s n hn
  go_enter Try.func6, Try.ntmps6
  go_wp2_with (go_at_call 20; refine hf.mono ?_; rintro e w' ⟨rfl, rfl⟩)
  go_region_with (first | (go_at_call 21; refine (cn_at s n c _ hs hn H.out).mono ?_; rintro e w1 ⟨rfl, b1⟩) | (go_at_call 22; refine (cc_at s n c _ hs hn H.out).mono ?_; rintro e w2 ⟨rfl, b2⟩))
  go_wp2
  go_ret
  refine ⟨?_, ((Below.refl w.heap.size w).drew.trans b1).trans (b2.mono b1.size)⟩
  show Ending.returned (Value.bool ((c : Int) + 1 == IntKind.i64.wrap (1 + (c : Int)))) = _
  rw [IntWalk.i64_in (1 + (c : Int)) (by omega), Int.add_comm, beq_self_eq_true]
end Go.Proofs.Qxb6605946a
