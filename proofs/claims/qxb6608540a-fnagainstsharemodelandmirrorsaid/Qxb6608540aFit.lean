/-
  Walks of zzStringsFit and of the guard of FnAgainstShareModelAndMirror.
-/
import Derived.Test.Qxb6608540aFigs
namespace Go.Proofs.Qxb6608540a
open Go.RowKit Go.Lib Go.Maps
set_option linter.unusedVariables false

set_option maxHeartbeats 2000000 in
theorem stringsFit_any (a : Option Addr) (len cap : Nat) (ss : List ByteArray) (w : World) (hn : len ≤ 1048576) (hlen : Hid (ss.length = len)) (hat : Hid (StrAt w a ss)) :
    Calls Try.prog 13 #[.int .i64 1048576, .slice a len cap] w fun e w' => (∃ T : Int, e = .returned (.int .i64 T) ∧ -1 ≤ T ∧ T ≤ 1048576) ∧ w = w' := by
  by_cases h : len ≤ 65536
  case neg =>
    go_enter Try.func13, Try.ntmps13
    go_wp2
    go_ret
    exact ⟨⟨-1, rfl, by omega, by omega⟩, rfl⟩
  go_enter Try.func13, Try.ntmps13
  go_wp2
  go_loop [0, 5] (fun v0 v5 => ∃ (k : Nat) (T : Int), k ≤ len ∧ v5 = .int .i64 k ∧ v0 = .int .i64 T ∧ 0 ≤ T ∧ T ≤ 1048576) (fun _ v5 => len - (intOf v5).toNat)
  case atStart => exact ⟨0, 1048576 - 16 * len, Nat.zero_le _, rfl, by go_num, by omega, by omega⟩
  case round =>
    obtain ⟨k, T, hk, rfl, rfl, hT0, hT1⟩ := hrel
    by_cases hlt : k < len
    · obtain ⟨b, off, rfl, hb, hc⟩ := hat.out (by rw [hlen.out]; omega)
      have h1 := hc k (by rw [hlen.out]; omega)
      obtain ⟨s, hs⟩ : ∃ s, s = ss.getD k ByteArray.empty := ⟨_, rfl⟩
      rw [← hs] at h1
      clear hc hs
      by_cases hbig : (s.size : Int) ≤ T
      · go_wp2
        go_round
        case rel => exact ⟨k + 1, T - s.size, by omega, by go_num, by go_num, by omega, by omega⟩
        case measure => simp [intOf]; omega
      · go_wp2
        go_ret
        exact ⟨⟨-1, rfl, by omega, by omega⟩, rfl⟩
    · go_wp2
      go_ret
      exact ⟨⟨T, rfl, by omega, by omega⟩, rfl⟩

def FitsEnd (nk nv : Nat) (of : ByteArray) (e : Ending) : Prop := ∃ ok : Bool, e = .returned (.bool ok) ∧ (ok = true → nk ≤ 1048576 ∧ nv ≤ 1048576 ∧ of.size ≤ 1048576)

theorem fits_no (nk nv : Nat) (of : ByteArray) : FitsEnd nk nv of (.returned (.bool false)) := ⟨false, rfl, fun hf => absurd hf Bool.false_ne_true⟩

set_option maxHeartbeats 4000000 in
theorem fits_any (i1 i2 i3 : Int) (ak av : Option Addr) (nk nv ck cv : Nat) (of : ByteArray) (ks : List ByteArray) (w : World) (hnk : nk ≤ maxLen) (hnv : nv ≤ maxLen) (hof : of.size ≤ maxLen) (hks : Hid (ks.length = nk)) (hkz : Hid (∀ s ∈ ks, s.size ≤ maxLen)) (hk : Hid (StrAt w ak ks)) :
    Calls Try.prog 18 #[.int .i64 i1, .int .i64 i2, .slice ak nk ck, .slice av nv cv, .int .i64 i3, .string of] w fun e w' => FitsEnd nk nv of e ∧ w = w' := by
  unfold maxLen at hnk hnv hof
  by_cases h0 : nk ≤ 1048576
  case neg =>
    go_enter Try.func18, Try.ntmps18
    go_wp2
    all_goals go_ret
    all_goals exact ⟨fits_no _ _ _, rfl⟩
  go_enter Try.func18, Try.ntmps18
  go_wp2
  go_loop [13, 14] (fun v i => ∃ (k : Nat) (T : Int), k ≤ nk ∧ i = .int .i64 k ∧ v = .int .i64 T ∧ 0 ≤ T ∧ T ≤ 1048576) (fun _ i => nk - (intOf i).toNat)
  case atStart => exact ⟨0, _, Nat.zero_le _, rfl, rfl, by omega, by omega⟩
  case round =>
    obtain ⟨k, T, hkk, rfl, rfl, hT0, hT1⟩ := hrel
    by_cases hlt : k < nk
    · obtain ⟨b, off, rfl, hb, hc⟩ := hk.out (by rw [hks.out]; omega)
      have hk2 : k < ks.length := by rw [hks.out]; exact hlt
      have h1 := hc k hk2
      obtain ⟨s, hs⟩ : ∃ s, s = ks.getD k ByteArray.empty := ⟨_, rfl⟩
      have hm : s.size ≤ maxLen := by
        rw [hs]
        simp only [List.getD, List.getElem?_eq_getElem hk2, Option.getD_some]
        exact hkz.out _ (List.getElem_mem hk2)
      rw [← hs] at h1
      unfold maxLen at hm
      clear hc hs hk2
      by_cases h3 : s.size ≤ 1048576
      · by_cases h4 : T + s.size ≤ 1048576
        · go_wp2
          go_round
          case rel => exact ⟨k + 1, T + s.size, by omega, by go_num, rfl, by omega, by omega⟩
          case measure => simp [intOf]; omega
        · go_wp2
          go_ret
          exact ⟨fits_no _ _ _, rfl⟩
      · go_wp2
        go_ret
        exact ⟨fits_no _ _ _, rfl⟩
    · by_cases h5 : T + nv + of.size ≤ 1048576
      · go_wp2
        go_ret
        exact ⟨⟨true, rfl, fun _ => ⟨by omega, by omega, by omega⟩⟩, rfl⟩
      · go_wp2
        all_goals go_ret
        all_goals exact ⟨fits_no _ _ _, rfl⟩
end Go.Proofs.Qxb6608540a
