/-
  zzStringsBytes once more, with the sum that it gives; zzCloneBytes; the guard of FnCodeWalkNextAndMatchAny.
-/
import Derived.Test.Qxb6605946aGuard
namespace Go.Proofs.Qxb6605946a
open Go.RowKit
set_option linter.unusedVariables false

/-- A row of strings, its address told only where it has an element. -/
def StrAt (w : World) (a : Option Addr) (ss : List ByteArray) : Prop :=
  0 < ss.length → ∃ b off, a = some ⟨b, off, none⟩ ∧ b < w.heap.size ∧ ∀ j, j < ss.length → w.cell? ⟨b, off + j, none⟩ = some (.string (ss.getD j ByteArray.empty))

theorem StrAt.row {w : World} {a : Option Addr} {ss : List ByteArray} (h : StrAt w a ss) (cap : Nat) : StrRow w (.slice a ss.length cap) ss := by
  by_cases h0 : 0 < ss.length
  · obtain ⟨b, off, rfl, hb, hc⟩ := h h0
    exact .inr ⟨b, off, cap, rfl, h0, hb, hc⟩
  · have : ss = [] := List.eq_nil_of_length_eq_zero (by omega)
    subst this
    exact .inl ⟨a, cap, rfl, rfl⟩

/-- The sizes of the first k strings, summed. -/
def sumTo (ss : List ByteArray) : Nat → Nat
  | 0 => 0
  | k + 1 => sumTo ss k + (ss.getD k ByteArray.empty).size

set_option maxHeartbeats 1000000 in
theorem stringsSum_any (a : Option Addr) (len cap : Nat) (ss : List ByteArray) (w : World) (hlen : Hid (ss.length = len)) (hn : len ≤ 1048576) (hss : Hid (∀ s ∈ ss, s.size ≤ 1048576)) (h : Hid (StrAt w a ss)) :
    Calls Try.prog 9 #[.slice a len cap] w fun e w' => (∃ T : Int, e = .returned (.int .i64 T) ∧ 0 ≤ T ∧ T ≤ 33554432 ∧ (T ≤ 1048576 → sumTo ss len ≤ 1048576)) ∧ w = w' := by
  go_enter Try.func9, Try.ntmps9
  go_wp2
  go_loop [3, 4] (fun v i => ∃ (k : Nat) (T : Int), k ≤ len ∧ i = .int .i64 k ∧ v = .int .i64 T ∧ 0 ≤ T ∧ T ≤ 33554432 ∧ (sumTo ss k : Int) ≤ T) (fun _ i => len - (intOf i).toNat)
  case atStart => exact ⟨0, 16 * len, Nat.zero_le _, rfl, by go_num, by omega, by omega, by simp [sumTo]; omega⟩
  case round =>
    obtain ⟨k, T, hk, rfl, rfl, hT0, hT1, hsum⟩ := hrel
    have HX : Hid ((sumTo ss k : Int) ≤ T) := hsum
    clear hsum
    by_cases hlt : k < len
    · obtain ⟨b, off, rfl, hb, hc⟩ := h.out (by rw [hlen.out]; omega)
      obtain ⟨s, hcx, hs, hmem⟩ := row_cell hlen.out hc k hlt
      have hsz := hss.out s hmem
      have HS : Hid (s = ss.getD k ByteArray.empty) := hs
      clear hs hmem hc
      by_cases hbig : 1048576 < T
      · go_wp2
        go_ret
        exact ⟨⟨T, rfl, hT0, hT1, fun hf => by omega⟩, rfl⟩
      · go_wp2
        go_round
        case rel => exact ⟨k + 1, T + s.size, by omega, by go_num, rfl, by omega, by omega, by have := HX.out; simp only [sumTo, ← HS.out]; omega⟩
        case measure => simp [intOf]; omega
    · go_wp2
      go_ret
      have hkn : k = len := by omega
      subst hkn
      exact ⟨⟨T, rfl, hT0, hT1, fun hf => by have := HX.out; omega⟩, rfl⟩

def FitsEnd2 (ls ss : List ByteArray) (nt nl ns : Nat) (e : Ending) : Prop :=
  ∃ ok : Bool, e = .returned (.bool ok) ∧ (ok = true → nt ≤ 1048576 ∧ nl ≤ 1048576 ∧ ns ≤ 1048576 ∧ (∀ s ∈ ls, s.size ≤ 1048576) ∧ ∀ s ∈ ss, s.size ≤ 1048576)

theorem fits2_no (ls ss : List ByteArray) (nt nl ns : Nat) : FitsEnd2 ls ss nt nl ns (.returned (.bool false)) :=
  ⟨false, rfl, fun hf => absurd hf Bool.false_ne_true⟩

set_option maxHeartbeats 4000000 in
theorem fits2_any (at_ al as_ : Option Addr) (nt nl ns ct cl cs : Nat) (ls ss : List ByteArray) (w : World) (hnt : nt ≤ maxLen) (hnl : nl ≤ maxLen) (hns : ns ≤ maxLen) (hll : Hid (ls.length = nl)) (hls : Hid (ss.length = ns))
    (hlz : Hid (∀ s ∈ ls, s.size ≤ maxLen)) (hsz : Hid (∀ s ∈ ss, s.size ≤ maxLen)) (hl : Hid (StrAt w al ls)) (hs : Hid (StrAt w as_ ss)) :
    Calls Try.prog 18 #[.slice at_ nt ct, .slice al nl cl, .slice as_ ns cs] w fun e w' => FitsEnd2 ls ss nt nl ns e ∧ w = w' := by
  unfold maxLen at hnt hnl hns
  by_cases h0 : nt + nl ≤ 1048576
  case neg =>
    go_enter Try.func18, Try.ntmps18
    go_wp2
    all_goals go_ret
    all_goals exact ⟨fits2_no _ _ _ _ _, rfl⟩
  go_enter Try.func18, Try.ntmps18
  go_wp2
  go_loop [7, 8] (fun v i => ∃ (k : Nat) (T : Int), k ≤ nl ∧ i = .int .i64 k ∧ v = .int .i64 T ∧ 0 ≤ T ∧ T ≤ 1048576 ∧ ∀ j, j < k → (ls.getD j ByteArray.empty).size ≤ 1048576) (fun _ i => nl - (intOf i).toNat)
  case atStart => exact ⟨0, _, Nat.zero_le _, rfl, rfl, by omega, by omega, fun j hj => absurd hj (Nat.not_lt_zero _)⟩
  case round =>
    obtain ⟨k, T, hk, rfl, rfl, hT0, hT1, hall⟩ := hrel
    have HA : Hid (∀ j, j < k → (ls.getD j ByteArray.empty).size ≤ 1048576) := hall
    clear hall
    by_cases hlt : k < nl
    · obtain ⟨b, off, rfl, hb, hc⟩ := hl.out (by rw [hll.out]; omega)
      obtain ⟨s, hcx, hs', hmem⟩ := row_cell hll.out hc k hlt
      have HS : Hid (s = ls.getD k ByteArray.empty) := hs'
      have hm := hlz.out s hmem
      unfold maxLen at hm
      clear hs' hmem hc
      by_cases h1 : s.size ≤ 1048576
      · by_cases h2 : T + s.size ≤ 1048576
        · go_wp2
          go_round
          case rel => exact ⟨k + 1, T + s.size, by omega, by go_num, rfl, by omega, by omega, le_snoc HA.out HS.out h1⟩
          case measure => simp [intOf]; omega
        · go_wp2
          go_ret
          exact ⟨fits2_no _ _ _ _ _, rfl⟩
      · go_wp2
        go_ret
        exact ⟨fits2_no _ _ _ _ _, rfl⟩
    · have hkn : k = nl := by omega
      subst hkn
      have HL : Hid (∀ s ∈ ls, s.size ≤ 1048576) := mem_of_all (by rw [hll.out]; exact HA.out)
      clear HA
      by_cases h1 : T + ns ≤ 1048576
      case neg =>
        go_wp2
        all_goals go_ret
        all_goals exact ⟨fits2_no _ _ _ _ _, rfl⟩
      go_wp2
      go_loop [7, 9] (fun v i => ∃ (m : Nat) (T : Int), m ≤ ns ∧ i = .int .i64 m ∧ v = .int .i64 T ∧ 0 ≤ T ∧ T ≤ 1048576 ∧ ∀ j, j < m → (ss.getD j ByteArray.empty).size ≤ 1048576) (fun _ i => ns - (intOf i).toNat)
      case atStart => exact ⟨0, _, Nat.zero_le _, rfl, rfl, by omega, by omega, fun j hj => absurd hj (Nat.not_lt_zero _)⟩
      case round =>
        obtain ⟨m, T2, hm, rfl, rfl, hU0, hU1, hall⟩ := hrel
        have HA : Hid (∀ j, j < m → (ss.getD j ByteArray.empty).size ≤ 1048576) := hall
        clear hall
        by_cases hlt2 : m < ns
        · obtain ⟨b, off, rfl, hb, hc⟩ := hs.out (by rw [hls.out]; omega)
          obtain ⟨s, hcx, hs', hmem⟩ := row_cell hls.out hc m hlt2
          have HS : Hid (s = ss.getD m ByteArray.empty) := hs'
          have hm2 := hsz.out s hmem
          unfold maxLen at hm2
          clear hs' hmem hc
          by_cases h3 : s.size ≤ 1048576
          · by_cases h4 : T2 + s.size ≤ 1048576
            · go_wp2
              go_round
              case rel => exact ⟨m + 1, T2 + s.size, by omega, by go_num, rfl, by omega, by omega, le_snoc HA.out HS.out h3⟩
              case measure => simp [intOf]; omega
            · go_wp2
              go_ret
              exact ⟨fits2_no _ _ _ _ _, rfl⟩
          · go_wp2
            go_ret
            exact ⟨fits2_no _ _ _ _ _, rfl⟩
        · go_wp2
          go_ret
          have hkn : m = ns := by omega
          subst hkn
          exact ⟨⟨true, rfl, fun _ => ⟨by omega, by omega, by omega, HL.out, mem_of_all (by rw [hls.out]; exact HA.out)⟩⟩, rfl⟩
end Go.Proofs.Qxb6605946a
