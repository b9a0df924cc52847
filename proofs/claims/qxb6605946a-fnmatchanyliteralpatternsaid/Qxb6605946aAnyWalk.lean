/-
  The walk of FnMatchAnyLiteralPattern.
-/
import Derived.Test.Qxb6605946aAny
import Derived.Test.Qxb6605946aGuard
import Derived.Test.Qxb6605946aNextWalk
namespace Go.Proofs.Qxb6605946a
open Go.RowKit
set_option linter.unusedVariables false

theorem strrow_len {w : World} {x : Option Addr} {len cap : Nat} {ss : List ByteArray} (h : StrRow w (.slice x len cap) ss) : ss.length = len := by
  rcases h with ⟨a, cap', hv, rfl⟩ | ⟨b, off, cap', hv, _⟩
  · injection hv with _ h2 _; rw [h2]; rfl
  · injection hv with _ h2 _; exact h2.symm

set_option maxHeartbeats 4000000 in
set_option maxRecDepth 10000 in
/-- FnMatchAnyLiteralPattern at every input. -/
theorem any_walk (a b c : ByteArray) (ti : Int) (x : Option Addr) (len cap : Nat) (ss : List ByteArray) (w : World) (ha : a.size ≤ maxLen) (hb : b.size ≤ maxLen) (hc : c.size ≤ maxLen) (hx : len ≤ maxLen) (hti : 0 ≤ ti) (hss0 : ∀ s ∈ ss, s.size ≤ maxLen)
    (hrow : StrRow w (.slice x len cap) ss) :
    Calls Try.prog 3 #[.string a, .int .u8 ti, .string b, .string c, .slice x len cap] w fun e w' => e = .returned (.bool true) ∧ Below w.heap.size w w' := by
  have hf := fits_any a b c ti x len cap ss w ha hb hc hx hss0 hrow
  have hlen : Hid (ss.length = len) := strrow_len hrow
  unfold maxLen at ha hb hc hx
  have HR : Hid (StrRow w (.slice x len cap) ss) := hrow
  clear hss0 hrow
  go_enter Try.func3, Try.ntmps3
  go_wp2_with fail
  refine hf.mono ?_
  rintro e w' ⟨⟨ok, rfl, hok⟩, rfl⟩
  clear hf
  cases ok with
  | false =>
    clear hok
    go_wp2
    go_ret
    exact ⟨rfl, Below.refl _ _⟩
  | true =>
  obtain ⟨h, hss⟩ := hok rfl
  clear hok
  rw [hlen.out] at h
  by_cases hle : len ≤ 65536
  case neg =>
    clear hss
    go_wp2
    go_ret
    exact ⟨rfl, Below.refl _ _⟩
  have hn : ss.length ≤ 1048576 := by rw [hlen.out]; omega
  have hsb := stringsBytes_any _ ss w hn hss HR.out
  have hcl := clone_any _ ss w hn HR.out
  have HSS : Hid (∀ s ∈ ss, s.size ≤ 1048576) := hss
  clear hss
  by_cases ht2 : 2 < ti
  case pos =>
    go_wp2_with (go_at_call 9; refine hsb.mono ?_; rintro e w' ⟨⟨T, rfl, hT0, hT1⟩, rfl⟩)
    all_goals go_ret
    all_goals exact ⟨rfl, Below.refl _ _⟩
  obtain ⟨t, rfl⟩ : ∃ t : Nat, ti = t := ⟨ti.toNat, by omega⟩
  have ht : t ≤ 2 := by omega
  clear ht2 hti
  have hu := Lib.uvarint_length64 (x := b.size) (by omega)
  have hup := Lib.uvarint_pos b.size
  go_wp2_with fail
  refine hsb.mono ?_
  rintro e w' ⟨⟨T, rfl, hT0, hT1⟩, rfl⟩
  by_cases hbig : (a.size : Int) + b.size + c.size + T ≤ 1048576
  · go_wp2_with fail
    refine hcl.mono ?_
    rintro e w0 ⟨v0, rfl, hrow0, b0⟩
    clear hsb hcl
    go_wp2_with fail
    refine (appendBytes_any w0.heap.size (.slice none 0 0) [] a _ (Nat.le_refl _) (by simp; omega) (buf_nil _ _)).mono ?_
    rintro e w1 ⟨v1, rfl, o1, b1⟩
    rw [List.nil_append] at o1
    go_wp2_with fail
    refine (appendLit_any w0.heap.size v1 _ t b _ (by omega) b1.size (by rw [← Lib.size_eq]; omega) o1).mono ?_
    rintro e w2 ⟨v2, rfl, o2, b2⟩
    go_wp2_with fail
    have hz2 : w0.heap.size ≤ w2.heap.size := Nat.le_trans b1.size b2.size
    refine (appendBytes_any w0.heap.size v2 _ c _ hz2 (by simp [litCode]; omega) o2).mono ?_
    rintro e w3 ⟨v3, rfl, o3, b3⟩
    have hl := code_length a.data.toList c.data.toList t b
    have hdr := code_drop a.data.toList c.data.toList t b
    generalize a.data.toList ++ litCode t b ++ c.data.toList = l at o3 hl hdr
    obtain ⟨g, cp, hv3, hg, hcells⟩ := buf_shape o3 (by omega)
    have hcv := run_convert_bytes_back (P := Try.prog) w3 26 9 5 ⟨g, 0, none⟩ cp l Try.underlying26 Try.underlying5 Try.underlying9 hcells
    rw [hv3]
    have hS : (⟨l.toArray⟩ : ByteArray).size = l.length := rfl
    have hD : (⟨l.toArray⟩ : ByteArray).data.toList = l := rfl
    have hll : l.length ≤ 16777216 := by rw [← Lib.size_eq, ← Lib.size_eq] at hl; omega
    have HL : Hid (l.length = a.size + 1 + (Lib.uvarint b.size).length + b.size + c.size) := by rw [← Lib.size_eq, ← Lib.size_eq] at hl; exact hl
    have HD : Hid ((⟨l.toArray⟩ : ByteArray).data.toList.drop a.size = t.toUInt8 :: (Lib.uvarint b.size ++ (b.data.toList ++ c.data.toList))) := by rw [hD, Lib.size_eq]; exact hdr
    have HS : Hid ((⟨l.toArray⟩ : ByteArray).size ≤ 16777216) := by rw [hS]; exact hll
    have b03 : Below w0.heap.size w0 w3 := (b1.trans b2).trans b3
    have hrow3 := hrow0.carry b03
    have bw3 : Below w.heap.size w w3 := b0.trans (b03.mono b0.size)
    clear o1 o2 o3 hcells hv3 hl hdr hS hD b1 b2 b3 b03 hrow0 b0 hz2
    generalize (⟨l.toArray⟩ : ByteArray) = S at hcv HD HS
    go_wp2_with (go_at_call 13; go_in)
    have hrow4 : StrRow (w3.alloc (Obj.cells #[Value.string S, Value.slice none 0 0] 46)) v0 ss := hrow3.carry ((Below.refl _ _).alloc (Nat.le_refl _) _)
    refine (matchAny_any S b a.size t w3.heap.size _ v0 ss _ HS.out ht (by omega) hn HSS.out (by simp) (by simp) hrow4 HD.out).mono ?_
    rintro e w5 ⟨rfl, b5⟩
    have hrow5 := hrow4.carry b5
    go_wp2_with fail
    refine (anyMatches_any b t v0 ss _ (by omega) ht hn HSS.out hrow5).mono ?_
    rintro e w6 ⟨rfl, b6⟩
    have hl := HL.out
    go_wp2
    go_ret
    refine ⟨rfl, (bw3.trans (((Below.refl _ _).alloc (Nat.le_refl _) _).mono bw3.size)).trans ((b5.trans (b6.mono b5.size)).mono ?_)⟩
    have := bw3.size
    simp
    omega
  · go_wp2
    go_ret
    exact ⟨rfl, Below.refl _ _⟩

end Go.Proofs.Qxb6605946a
