/-
  Walks of Code's readers: longUvarint, Uvarint, Next.
-/
import Derived.Test.Qxb6605946aRows
import Derived.WalkKit
import Derived.ProofKit
import Derived.LoopTactic
import Derived.Outline
import Derived.Lib.VarintMem
import Derived.Lib.VarintBits
import Derived.Lib.Strings
namespace Go.Proofs.Qxb6605946a
open Go.RowKit
set_option linter.unusedVariables false

theorem at_drop (S : ByteArray) (a : Nat) (b : UInt8) (r : List UInt8) (h : S.data.toList.drop a = b :: r) :
    ∃ hlt : a < S.size, S[a] = b ∧ S.data.toList.drop (a + 1) = r := by
  have hl : a < S.data.toList.length := by
    have := congrArg List.length h
    rw [List.length_drop, List.length_cons] at this
    omega
  rw [List.drop_eq_getElem_cons hl] at h
  injection h with h1 h2
  exact ⟨by rw [Lib.size_eq]; exact hl, h1, h2⟩

theorem ret_two {k k' : IntKind} {a b c d : Int} (h1 : a = b) (h2 : c = d) : Ending.returned (.tuple #[.int k a, .int k' c]) = .returned (.tuple #[.int k b, .int k' d]) := by rw [h1, h2]

theorem int_eq {k : IntKind} {a b : Int} (h : a = b) : Value.int k a = .int k b := by rw [h]
theorem ret_int {k : IntKind} {a b : Int} (h : a = b) : Ending.returned (.int k a) = .returned (.int k b) := by rw [h]

theorem join0 (acc b : Int) (ha : acc = 0) (hb₀ : 0 ≤ b) (hb : b < 256) : bits .or .u64 acc (IntKind.u64.wrap (IntKind.u64.wrap (bits .and .u8 b 127))) = b % 128 := by
  rw [u8_and127 b hb₀ hb, IntWalk.u64_in (b % 128) (by omega), IntWalk.u64_in (b % 128) (by omega), u64_orv0 _ _ (by omega) (by omega) (by omega) (by omega) (by omega)]
  omega
theorem join7 (acc b : Int) (ha₀ : 0 ≤ acc) (ha : acc < 128) (hb₀ : 0 ≤ b) (hb : b < 256) : bits .or .u64 acc (IntKind.u64.wrap (IntKind.u64.wrap (bits .and .u8 b 127) * 128)) = acc + b % 128 * 128 := by
  rw [u8_and127 b hb₀ hb, IntWalk.u64_in (b % 128) (by omega), IntWalk.u64_in (b % 128 * 128) (by omega), u64_orv7 _ _ (by omega) (by omega) (by omega) (by omega) (by omega)]
theorem join14 (acc b : Int) (ha₀ : 0 ≤ acc) (ha : acc < 16384) (hb₀ : 0 ≤ b) (hb : b < 256) : bits .or .u64 acc (IntKind.u64.wrap (IntKind.u64.wrap (bits .and .u8 b 127) * 16384)) = acc + b % 128 * 16384 := by
  rw [u8_and127 b hb₀ hb, IntWalk.u64_in (b % 128) (by omega), IntWalk.u64_in (b % 128 * 16384) (by omega), u64_orv14 _ _ (by omega) (by omega) (by omega) (by omega) (by omega)]

set_option maxHeartbeats 1000000 in
set_option maxRecDepth 10000 in
theorem longUvarint_any (S : ByteArray) (a x g : Nat) (r : List UInt8) (w : World) (hS : S.size ≤ 16777216) (hx : x < 2097152) (hcell : w.cell? ⟨g, 0, none⟩ = some (.string S))
    (hd : S.data.toList.drop a = Lib.uvarint x ++ r) :
    Calls Try.prog 32 #[.pointer (some ⟨g, 0, none⟩), .int .i64 a] w fun e w' => e = .returned (.tuple #[.int .u64 x, .int .i64 ((a + (Lib.uvarint x).length : Nat) : Int)]) ∧ w = w' := by
  go_enter Try.func32, Try.ntmps32
  go_wp2
  go_loop [1, 6, 7] (fun va vn vs => ∃ k y acc : Nat, va = .int .i64 ((a + k : Nat) : Int) ∧ vn = .int .u64 acc ∧ vs = .int .i64 ((7 * k : Nat) : Int) ∧ k ≤ 2 ∧ acc + y * 128 ^ k = x ∧ acc < 128 ^ k ∧ S.data.toList.drop (a + k) = Lib.uvarint y ++ r ∧ k + (Lib.uvarint y).length = (Lib.uvarint x).length)
    (fun va _ _ => a + 3 - (intOf va).toNat)
  case atStart => exact ⟨0, x, 0, rfl, rfl, rfl, by omega, by omega, by omega, hd, by omega⟩
  case round =>
    obtain ⟨k, y, acc, rfl, rfl, rfl, hk, hsum, hacc, hdr, hlen⟩ := hrel
    rcases (show k = 0 ∨ k = 1 ∨ k = 2 by omega) with rfl | rfl | rfl
    · have hsum' : acc + y * 1 = x := by simpa using hsum
      have hacc' : acc < 1 := by simpa using hacc
      clear hsum hacc
      by_cases h128 : y < 128
      · rw [Lib.uvarint_small h128] at hdr hlen
        obtain ⟨hlt, hb, hdr'⟩ := at_drop S _ _ _ hdr
        simp only [Nat.add_zero] at hlt hb
        have hbn : (S[a].toNat : Int) = y := by rw [hb, Lib.toUInt8_toNat (by omega)]
        have HL : Hid (0 + [y.toUInt8].length = (Lib.uvarint x).length) := hlen
        have HX : Hid (acc + y * 1 = x) := hsum'
        clear hdr hdr' hd hb hlen hsum'
        go_wp2
        go_ret2
        have hl := HL.out
        have hx' := HX.out
        simp only [List.length_singleton] at hl
        exact ⟨ret_two (by rw [join0 _ _ (by omega) (by omega) (by omega)]; omega) (by omega), rfl⟩
      · rw [Lib.uvarint_big (by omega)] at hdr hlen
        obtain ⟨hlt, hb, hdr'⟩ := at_drop S _ _ _ hdr
        simp only [Nat.add_zero] at hlt hb hdr'
        have hbn : (S[a].toNat : Int) = (y : Int) % 128 + 128 := by rw [hb, Lib.toUInt8_toNat (by omega)]; omega
        have HD : Hid (S.data.toList.drop (a + 1) = Lib.uvarint (y / 128) ++ r) := hdr'
        have HL : Hid (0 + ((y % 128 + 128).toUInt8 :: Lib.uvarint (y / 128)).length = (Lib.uvarint x).length) := hlen
        have HX : Hid (acc + y * 1 = x) := hsum'
        clear hdr hdr' hd hb hlen hsum'
        go_wp2
        go_round
        case rel =>
          have hl := HL.out
          have hx' := HX.out
          simp only [List.length_cons] at hl
          refine ⟨0 + 1, y / 128, acc + y % 128 * 1, by go_num, int_eq (by rw [join0 _ _ (by omega) (by omega) (by omega)]; omega), by go_num, by omega, ?_, ?_, HD.out, by omega⟩
          · show acc + y % 128 * 1 + y / 128 * 128 = x
            omega
          · show acc + y % 128 * 1 < 128
            omega
        case measure => simp [intOf]
    · have hsum' : acc + y * 128 = x := by simpa using hsum
      have hacc' : acc < 128 := by simpa using hacc
      clear hsum hacc
      by_cases h128 : y < 128
      · rw [Lib.uvarint_small h128] at hdr hlen
        obtain ⟨hlt, hb, hdr'⟩ := at_drop S _ _ _ hdr
        have hbn : (S[a + 1].toNat : Int) = y := by rw [hb, Lib.toUInt8_toNat (by omega)]
        have HL : Hid (1 + [y.toUInt8].length = (Lib.uvarint x).length) := hlen
        have HX : Hid (acc + y * 128 = x) := hsum'
        clear hdr hdr' hd hb hlen hsum'
        go_wp2
        go_ret2
        have hl := HL.out
        have hx' := HX.out
        simp only [List.length_singleton] at hl
        exact ⟨ret_two (by rw [join7 _ _ (by omega) (by omega) (by omega) (by omega)]; omega) (by omega), rfl⟩
      · rw [Lib.uvarint_big (by omega)] at hdr hlen
        obtain ⟨hlt, hb, hdr'⟩ := at_drop S _ _ _ hdr
        have hbn : (S[a + 1].toNat : Int) = (y : Int) % 128 + 128 := by rw [hb, Lib.toUInt8_toNat (by omega)]; omega
        have HD : Hid (S.data.toList.drop (a + 1 + 1) = Lib.uvarint (y / 128) ++ r) := hdr'
        have HL : Hid (1 + ((y % 128 + 128).toUInt8 :: Lib.uvarint (y / 128)).length = (Lib.uvarint x).length) := hlen
        have HX : Hid (acc + y * 128 = x) := hsum'
        clear hdr hdr' hd hb hlen hsum'
        go_wp2
        go_round
        case rel =>
          have hl := HL.out
          have hx' := HX.out
          simp only [List.length_cons] at hl
          refine ⟨1 + 1, y / 128, acc + y % 128 * 128, by go_num, int_eq (by rw [join7 _ _ (by omega) (by omega) (by omega) (by omega)]; omega), by go_num, by omega, ?_, ?_, HD.out, by omega⟩
          · show acc + y % 128 * 128 + y / 128 * 16384 = x
            omega
          · show acc + y % 128 * 128 < 16384
            omega
        case measure => simp [intOf]; omega
    · have hsum' : acc + y * 16384 = x := by simpa using hsum
      have hacc' : acc < 16384 := by simpa using hacc
      clear hsum hacc
      by_cases h128 : y < 128
      · rw [Lib.uvarint_small h128] at hdr hlen
        obtain ⟨hlt, hb, hdr'⟩ := at_drop S _ _ _ hdr
        have hbn : (S[a + 2].toNat : Int) = y := by rw [hb, Lib.toUInt8_toNat (by omega)]
        have HL : Hid (2 + [y.toUInt8].length = (Lib.uvarint x).length) := hlen
        have HX : Hid (acc + y * 16384 = x) := hsum'
        clear hdr hdr' hd hb hlen hsum'
        go_wp2
        go_ret2
        have hl := HL.out
        have hx' := HX.out
        simp only [List.length_singleton] at hl
        exact ⟨ret_two (by rw [join14 _ _ (by omega) (by omega) (by omega) (by omega)]; omega) (by omega), rfl⟩
      · omega

set_option maxHeartbeats 1000000 in
set_option maxRecDepth 10000 in
theorem uvarint_any (S : ByteArray) (a x g : Nat) (r : List UInt8) (w : World) (hS : S.size ≤ 16777216) (hx : x < 2097152) (hcell : w.cell? ⟨g, 0, none⟩ = some (.string S))
    (hd : S.data.toList.drop a = Lib.uvarint x ++ r) :
    Calls Try.prog 25 #[.pointer (some ⟨g, 0, none⟩), .int .i64 a] w fun e w' => e = .returned (.tuple #[.int .u64 x, .int .i64 ((a + (Lib.uvarint x).length : Nat) : Int)]) ∧ w = w' := by
  by_cases h128 : x < 128
  · have hd' := hd
    rw [Lib.uvarint_small h128] at hd'
    obtain ⟨hlt, hb, hdr'⟩ := at_drop S _ _ _ hd'
    have hbn : (S[a].toNat : Int) = x := by rw [hb, Lib.toUInt8_toNat (by omega)]
    have HL : Hid ((Lib.uvarint x).length = 1) := by rw [Lib.uvarint_small h128]; rfl
    clear hd hd' hdr' hb
    go_enter Try.func25, Try.ntmps25
    go_wp2
    go_ret2
    have hl := HL.out
    exact ⟨ret_two (by omega) (by omega), rfl⟩
  · have hd' := hd
    rw [Lib.uvarint_big (by omega)] at hd'
    obtain ⟨hlt, hb, hdr'⟩ := at_drop S _ _ _ hd'
    have hbn : (S[a].toNat : Int) = (x : Int) % 128 + 128 := by rw [hb, Lib.toUInt8_toNat (by omega)]; omega
    have HD : Hid (S.data.toList.drop a = Lib.uvarint x ++ r) := hd
    clear hd hd' hdr' hb
    go_enter Try.func25, Try.ntmps25
    go_wp2_with (go_at_call 32; refine (longUvarint_any S a x g r _ hS hx hcell HD.out).mono ?_; rintro e w' ⟨rfl, rfl⟩)
    go_ret2
    exact ⟨rfl, rfl⟩

set_option maxHeartbeats 1000000 in
set_option maxRecDepth 10000 in
/-- Next at a literal pattern: the place behind its code. -/
theorem next_any (S : ByteArray) (a t n g : Nat) (r : List UInt8) (w : World) (hS : S.size ≤ 16777216) (ht : t ≤ 2) (hn : n < 2097152) (hcell : w.cell? ⟨g, 0, none⟩ = some (.string S))
    (hd : S.data.toList.drop a = t.toUInt8 :: (Lib.uvarint n ++ r)) :
    Calls Try.prog 17 #[.pointer (some ⟨g, 0, none⟩), .int .i64 a] w fun e w' => e = .returned (.int .i64 ((a + 1 + (Lib.uvarint n).length + n : Nat) : Int)) ∧ w = w' := by
  obtain ⟨hlt, hb, hdr'⟩ := at_drop S _ _ _ hd
  have hbn : (S[a].toNat : Int) = t := by rw [hb, Lib.toUInt8_toNat (by omega)]
  have hu := uvarint_any S (a + 1) n g r w hS hn hcell hdr'
  have hl := Lib.uvarint_length64 (x := n) (by omega)
  have hnn : ((t : Int) == 255) = false := by simp; omega
  clear hd hdr' hb
  go_enter Try.func17, Try.ntmps17
  go_wp2_with (go_at_call 25; refine hu.mono ?_; rintro e w' ⟨rfl, rfl⟩)
  go_ret
  refine ⟨ret_int (by omega), rfl⟩
end Go.Proofs.Qxb6605946a
