/-
  MatchAny: slices.IndexFunc and ContainsFunc at its closure; MatchAny itself.
-/
import Derived.Test.Qxb6605946aStrs
namespace Go.Proofs.Qxb6605946a
open Go.RowKit
set_option linter.unusedVariables false

theorem ret_bi {b : Bool} {k : IntKind} {a c : Int} (h : a = c) : Ending.returned (.tuple #[.bool b, .int k a]) = .returned (.tuple #[.bool b, .int k c]) := by rw [h]

set_option maxHeartbeats 1000000 in
theorem indexFunc_none (f : Value) (a : Option Addr) (cap : Nat) (w : World) :
    Calls Try.prog 33 #[.slice a 0 cap, f] w fun e w' => e = .returned (.int .i64 (-1)) ∧ w = w' := by
  go_enter Try.func33, Try.ntmps33
  go_wp2
  refine wp_loop_rounds 1 ?_
  rw [rounds_succ]
  go_wp2
  go_ret
  exact ⟨rfl, rfl⟩

set_option maxHeartbeats 1000000 in
set_option maxRecDepth 10000 in
theorem indexFunc_some (lit : ByteArray) (t b off cap : Nat) (p q : Addr) (ss : List ByteArray) (w : World) (hl : lit.size ≤ maxLen) (ht : t ≤ 2) (hn : ss.length ≤ 1048576) (hss : ∀ s ∈ ss, s.size ≤ 1048576)
    (hp : w.cell? p = some (.string lit)) (hq : w.cell? q = some (.int .u8 t))
    (hc : ∀ j, j < ss.length → w.cell? ⟨b, off + j, none⟩ = some (.string (ss.getD j ByteArray.empty))) :
    Calls Try.prog 33 #[.slice (some ⟨b, off, none⟩) ss.length cap, .func (Fn.func 27) #[] #[.pointer (some p), .pointer (some q)]] w fun e w' => (∃ r : Int, e = .returned (.int .i64 r) ∧ decide (0 ≤ r) = anyB lit t ss) ∧ w = w' := by
  obtain ⟨len, hlen⟩ : ∃ len, ss.length = len := ⟨_, rfl⟩
  have HC : Hid (∀ j, j < len → w.cell? ⟨b, off + j, none⟩ = some (.string (ss.getD j ByteArray.empty))) := by rw [← hlen]; exact hc
  have HN : Hid (ss.length = len) := hlen
  have HSS : Hid (∀ s ∈ ss, s.size ≤ 1048576) := hss
  rw [hlen] at hn ⊢
  clear hc hlen hss
  go_enter Try.func33, Try.ntmps33
  go_wp2
  go_loop [8] (fun i => ∃ k : Nat, k ≤ len ∧ i = .int .i64 k ∧ (∀ j, j < k → matchB lit t (ss.getD j ByteArray.empty) = false)) (fun i => len - (intOf i).toNat)
  case atStart => exact ⟨0, Nat.zero_le _, rfl, fun j hj => absurd hj (Nat.not_lt_zero _)⟩
  case round =>
    obtain ⟨k, hk, rfl, hall⟩ := hrel
    have HA : Hid (∀ j, j < k → matchB lit t (ss.getD j ByteArray.empty) = false) := hall
    clear hall
    by_cases hlt : k < len
    · obtain ⟨s, hs⟩ : ∃ s, s = ss.getD k ByteArray.empty := ⟨_, rfl⟩
      have hcx : w.cell? ⟨b, off + k, none⟩ = some (.string s) := by rw [hs]; exact HC.out k hlt
      have hsz : s.size ≤ maxLen := by
        rw [hs]
        have hk2 : k < ss.length := by rw [HN.out]; exact hlt
        simp only [List.getD, List.getElem?_eq_getElem hk2, Option.getD_some]
        have := HSS.out _ (List.getElem_mem hk2)
        unfold maxLen
        omega
      have HS : Hid (s = ss.getD k ByteArray.empty) := hs
      clear hs
      cases hm : matchB lit t s with
      | true =>
        have hcall := closure_any lit s t p q w hsz hl ht hp hq
        rw [hm] at hcall
        have HM : Hid (matchB lit t s = true) := hm
        clear hm
        go_wp2_with (go_at_call 27; refine hcall.mono ?_; rintro e w1 ⟨rfl, rfl⟩)
        go_ret
        exact ⟨⟨_, rfl, by rw [any_hit k (by rw [HN.out]; exact hlt) (by rw [← HS.out]; exact HM.out)]; simp⟩, rfl⟩
      | false =>
        have hcall := closure_any lit s t p q w hsz hl ht hp hq
        rw [hm] at hcall
        have HM : Hid (matchB lit t s = false) := hm
        clear hm
        go_wp2_with (go_at_call 27; refine hcall.mono ?_; rintro e w1 ⟨rfl, rfl⟩)
        go_round
        case rel => exact ⟨k + 1, by omega, by go_num, none_snoc HA.out HS.out HM.out⟩
        case measure => simp [intOf]; omega
    · go_wp2
      go_ret
      have hkn : k = len := by omega
      subst hkn
      exact ⟨⟨_, rfl, by rw [any_miss (by rw [HN.out]; exact HA.out)]; decide⟩, rfl⟩

set_option maxHeartbeats 1000000 in
theorem containsFunc_any (lit : ByteArray) (t : Nat) (p q : Addr) (v : Value) (ss : List ByteArray) (w : World) (hl : lit.size ≤ maxLen) (ht : t ≤ 2) (hn : ss.length ≤ 1048576) (hss : ∀ s ∈ ss, s.size ≤ 1048576)
    (hp : w.cell? p = some (.string lit)) (hq : w.cell? q = some (.int .u8 t)) (h : StrRow w v ss) :
    Calls Try.prog 26 #[v, .func (Fn.func 27) #[] #[.pointer (some p), .pointer (some q)]] w fun e w' => e = .returned (.bool (anyB lit t ss)) ∧ w = w' := by
  have hi : Calls Try.prog 33 #[v, .func (Fn.func 27) #[] #[.pointer (some p), .pointer (some q)]] w fun e w' => (∃ r : Int, e = .returned (.int .i64 r) ∧ decide (0 ≤ r) = anyB lit t ss) ∧ w = w' := by
    rcases h with ⟨a, cap, rfl, rfl⟩ | ⟨b, off, cap, rfl, _, hb, hc⟩
    · refine (indexFunc_none _ a cap w).mono ?_
      rintro e w' ⟨rfl, rfl⟩
      exact ⟨⟨_, rfl, rfl⟩, rfl⟩
    · exact indexFunc_some lit t b off cap p q ss w hl ht hn hss hp hq hc
  clear h
  go_enter Try.func26, Try.ntmps26
  go_wp2_with fail
  refine hi.mono ?_
  rintro e w' ⟨⟨r, rfl, hr⟩, rfl⟩
  have HR : Hid (decide (0 ≤ r) = anyB lit t ss) := hr
  clear hr
  go_wp2
  go_ret
  exact ⟨ret_bools HR.out, rfl⟩

set_option maxHeartbeats 1000000 in
set_option maxRecDepth 10000 in
theorem matchAny_any (S lit : ByteArray) (a t g : Nat) (r : List UInt8) (v : Value) (ss : List ByteArray) (w : World) (hS : S.size ≤ 16777216) (ht : t ≤ 2) (hl : lit.size ≤ 1048576) (hn : ss.length ≤ 1048576) (hss : ∀ s ∈ ss, s.size ≤ 1048576)
    (hg : g < w.heap.size) (hcell : w.cell? ⟨g, 0, none⟩ = some (.string S)) (h : StrRow w v ss)
    (hd : S.data.toList.drop a = t.toUInt8 :: (Lib.uvarint lit.size ++ (lit.data.toList ++ r))) :
    Calls Try.prog 14 #[.pointer (some ⟨g, 0, none⟩), .int .i64 a, v] w fun e w' => e = .returned (.tuple #[.bool (anyB lit t ss), .int .i64 ((a + 1 + (Lib.uvarint lit.size).length + lit.size : Nat) : Int)]) ∧ Below w.heap.size w w' := by
  obtain ⟨hlt, hb, hdr'⟩ := at_drop S _ _ _ hd
  have hbn : (S[a].toNat : Int) = t := by rw [hb, Lib.toUInt8_toNat (by omega)]
  have hu := uvarint_any S (a + 1) lit.size g _ w hS (by omega) hcell hdr'
  have hlen := Lib.uvarint_length64 (x := lit.size) (by omega)
  have hnn : ((t : Int) == 255) = false := by simp; omega
  have hend : a + 1 + (Lib.uvarint lit.size).length + lit.size ≤ S.size := by
    have := congrArg List.length hd
    rw [List.length_drop, ← Lib.size_eq] at this
    simp only [List.length_cons, List.length_append, ← Lib.size_eq] at this
    omega
  have hext : S.extract (a + 1 + (Lib.uvarint lit.size).length) (a + 1 + (Lib.uvarint lit.size).length + lit.size) = lit := by
    apply ByteArray.ext
    apply Array.toList_inj.mp
    have e : S.data.toList.drop (a + 1 + (Lib.uvarint lit.size).length) = lit.data.toList ++ r := by
      rw [← List.drop_drop, hdr', List.drop_left]
    rw [Lib.extract_data, e, show a + 1 + (Lib.uvarint lit.size).length + lit.size - (a + 1 + (Lib.uvarint lit.size).length) = lit.data.toList.length by rw [← Lib.size_eq]; omega, List.take_left]
  clear hd hdr' hb
  have hz : w.heap.size < w.heap.size + 1 := by omega
  go_enter Try.func14, Try.ntmps14
  go_wp2_with (go_at_call 25; refine hu.mono ?_; rintro e w' ⟨rfl, rfl⟩)
  have b1 : Below w.heap.size w ((w.alloc (Obj.cells #[Value.string lit] 9)).alloc (Obj.cells #[Value.int IntKind.u8 t] 53)) := ((Below.refl _ _).alloc (Nat.le_refl _) _).alloc (by simp) _
  refine (containsFunc_any lit t ⟨w.heap.size, 0, none⟩ ⟨w.heap.size + 1, 0, none⟩ v ss _ (by unfold maxLen; omega) ht hn hss ?_ ?_ (h.carry b1)).mono ?_
  · simp
  · simp
  · rintro e w' ⟨rfl, rfl⟩
    go_wp2
    go_ret2
    exact ⟨ret_bi (by omega), b1⟩
end Go.Proofs.Qxb6605946a
