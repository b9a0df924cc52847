/-
  The walk of FnNextSkipsLiteralPattern.
-/
import Derived.Test.Qxb6605946aBuf
import Derived.Test.Qxb6605946aRead
import Derived.Laws.IdiomStrings
namespace Go.Proofs.Qxb6605946a
open Go.RowKit
set_option linter.unusedVariables false

theorem buf_shape {B : Nat} {w : World} {v : Value} {l : List UInt8} (h : Buf B w v l) (hl : 0 < l.length) :
    ∃ g cap, v = .slice (some ⟨g, 0, none⟩) l.length cap ∧ g < w.heap.size ∧ ∀ j (hj : j < l.length), w.cell? ((⟨g, 0, none⟩ : Addr).add j) = some (.int .u8 (l[j].toNat : Int)) := by
  have hlt := World.ownsRow.lt h
  rcases h.2 with ⟨rfl, hn⟩ | ⟨g, cap, cur, rfl, hb, hgg, _⟩
  · omega
  · refine ⟨g, cap, rfl, (hlt g rfl).2, fun j hj => ?_⟩
    have := World.ownsRow.cells h (g := g) rfl j (.int .u8 (l[j].toNat : Int)) (by simp [Lib.byteCells, List.getElem?_eq_getElem hj])
    exact this

set_option maxHeartbeats 1000000 in
theorem fits_next_yes (a b c : ByteArray) (t : Int) (w : World) (h : a.size + b.size + c.size ≤ 1048576) :
    Calls Try.prog 16 #[.string a, .int .u8 t, .string b, .string c] w fun e w' => e = .returned (.bool true) ∧ w = w' := by
  go_enter Try.func16, Try.ntmps16
  go_wp2
  go_ret
  exact ⟨rfl, rfl⟩

set_option maxHeartbeats 1000000 in
theorem fits_next_no (a b c : ByteArray) (t : Int) (w : World) (ha : a.size ≤ maxLen) (hb : b.size ≤ maxLen) (hc : c.size ≤ maxLen) (h : 1048576 < a.size + b.size + c.size) :
    Calls Try.prog 16 #[.string a, .int .u8 t, .string b, .string c] w fun e w' => e = .returned (.bool false) ∧ w = w' := by
  unfold maxLen at ha hb hc
  go_enter Try.func16, Try.ntmps16
  go_wp2
  all_goals go_ret
  all_goals exact ⟨rfl, rfl⟩

set_option maxHeartbeats 1000000 in
theorem next_far (a b c : ByteArray) (t : Int) (w : World) (ha : a.size ≤ maxLen) (hb : b.size ≤ maxLen) (hc : c.size ≤ maxLen) (h : 1048576 < a.size + b.size + c.size) :
    Calls Try.prog 4 #[.string a, .int .u8 t, .string b, .string c] w fun e w' => e = .returned (.bool true) ∧ Below w.heap.size w w' := by
  have hf := fits_next_no a b c t w ha hb hc h
  go_enter Try.func4, Try.ntmps4
  go_wp2_with (go_at_call 16; refine hf.mono ?_; rintro e w' ⟨rfl, rfl⟩)
  go_ret
  exact ⟨rfl, Below.refl _ _⟩

set_option maxHeartbeats 1000000 in
theorem next_tail (a b c : ByteArray) (t : Int) (w : World) (h : a.size + b.size + c.size ≤ 1048576) (ht : 2 < t) :
    Calls Try.prog 4 #[.string a, .int .u8 t, .string b, .string c] w fun e w' => e = .returned (.bool true) ∧ Below w.heap.size w w' := by
  have hf := fits_next_yes a b c t w h
  go_enter Try.func4, Try.ntmps4
  go_wp2_with (go_at_call 16; refine hf.mono ?_; rintro e w' ⟨rfl, rfl⟩)
  go_ret
  exact ⟨rfl, Below.refl _ _⟩

theorem ret_bool {a : Bool} (h : a = true) : Ending.returned (.bool a) = .returned (.bool true) := by rw [h]

theorem code_drop (a c : List UInt8) (t : Nat) (b : ByteArray) : (a ++ litCode t b ++ c).drop a.length = t.toUInt8 :: (Lib.uvarint b.size ++ (b.data.toList ++ c)) := by
  simp [litCode, List.append_assoc]

theorem code_length (a c : List UInt8) (t : Nat) (b : ByteArray) : (a ++ litCode t b ++ c).length = a.length + 1 + (Lib.uvarint b.size).length + b.size + c.length := by
  simp [litCode]; omega

set_option maxHeartbeats 1000000 in
set_option maxRecDepth 10000 in
theorem next_in (a b c : ByteArray) (t : Nat) (w : World) (h : a.size + b.size + c.size ≤ 1048576) (ht : t ≤ 2) :
    Calls Try.prog 4 #[.string a, .int .u8 t, .string b, .string c] w fun e w' => e = .returned (.bool true) ∧ Below w.heap.size w w' := by
  have hf := fits_next_yes a b c t w h
  have hu := Lib.uvarint_length64 (x := b.size) (by omega)
  have hup := Lib.uvarint_pos b.size
  go_enter Try.func4, Try.ntmps4
  go_wp2_with (go_at_call 16; refine hf.mono ?_; rintro e w' ⟨rfl, rfl⟩)
  refine (appendBytes_any w.heap.size (.slice none 0 0) [] a _ (Nat.le_refl _) (by simp; omega) (buf_nil _ _)).mono ?_
  rintro e w1 ⟨v1, rfl, o1, b1⟩
  rw [List.nil_append] at o1
  go_wp2_with fail
  refine (appendLit_any w.heap.size v1 _ t b _ (by omega) b1.size (by rw [← Lib.size_eq]; omega) o1).mono ?_
  rintro e w2 ⟨v2, rfl, o2, b2⟩
  go_wp2_with fail
  have hz2 : w.heap.size ≤ w2.heap.size := Nat.le_trans b1.size b2.size
  refine (appendBytes_any w.heap.size v2 _ c _ hz2 (by simp [litCode]; omega) o2).mono ?_
  rintro e w3 ⟨v3, rfl, o3, b3⟩
  have hl := code_length a.data.toList c.data.toList t b
  have hdr := code_drop a.data.toList c.data.toList t b
  generalize a.data.toList ++ litCode t b ++ c.data.toList = l at o3 hl hdr
  obtain ⟨g, cap, hv, hg, hcells⟩ := buf_shape o3 (by omega)
  have hcv := run_convert_bytes_back (P := Try.prog) w3 26 9 5 ⟨g, 0, none⟩ cap l Try.underlying26 Try.underlying5 Try.underlying9 hcells
  rw [hv]
  have hS : (⟨l.toArray⟩ : ByteArray).size = l.length := rfl
  have hD : (⟨l.toArray⟩ : ByteArray).data.toList = l := rfl
  have hll : l.length ≤ 16777216 := by rw [← Lib.size_eq, ← Lib.size_eq] at hl; omega
  have HL : Hid (l.length = a.size + 1 + (Lib.uvarint b.size).length + b.size + c.size) := by rw [← Lib.size_eq, ← Lib.size_eq] at hl; exact hl
  have HD : Hid ((⟨l.toArray⟩ : ByteArray).data.toList.drop a.size = t.toUInt8 :: (Lib.uvarint b.size ++ (b.data.toList ++ c.data.toList))) := by rw [hD, Lib.size_eq]; exact hdr
  have HS : Hid ((⟨l.toArray⟩ : ByteArray).size ≤ 16777216) := by rw [hS]; exact hll
  clear o1 o2 o3 hcells hv hf hl hdr hS hD
  generalize (⟨l.toArray⟩ : ByteArray) = S at hcv HD HS
  go_wp2_with (first | (go_at_call 17; refine (next_any S a.size t b.size w3.heap.size _ _ HS.out ht (by omega) (by simp) HD.out).mono ?_; rintro e w' ⟨rfl, rfl⟩) | go_in)
  have hl := HL.out
  go_ret
  refine ⟨ret_bool ?_, ((b1.trans b2).trans b3).alloc (Nat.le_trans hz2 b3.size) _⟩
  rw [beq_iff_eq]
  omega
end Go.Proofs.Qxb6605946a
