/-
  Walks of the law's own writers: zzAppendBytesOf, zzAppendUvarint, zzAppendLiteralPattern. A buffer of the call's own, told by its bytes.
-/
import Derived.Test.Qxb6605946aRows
import Derived.WalkKit
import Derived.ProofKit
import Derived.OwnWalk
import Derived.LoopTactic
import Derived.Outline
import Derived.Lib.VarintMem
import Derived.Lib.Strings
namespace Go.Proofs.Qxb6605946a
open Go.RowKit
set_option linter.unusedVariables false

theorem Try.info5 : (Try.prog.info? 5).map (fun i => (i.zero, i.size, i.bytes)) = some (some (.int .u8 0), 1, 1) := by kernel_rfl

/-- The slice value v holds the bytes l, in a block of the call's own (its number is at least B). -/
def Buf (B : Nat) (w : World) (v : Value) (l : List UInt8) : Prop := w.ownsRow B 5 1 v l.length (Lib.byteCells l)

theorem buf_nil (B : Nat) (w : World) : Buf B w (.slice none 0 0) [] := World.ownsRow_nil _ _ _ _

theorem take_byte (s : ByteArray) (k : Nat) (h : k < s.size) : s.data.toList.take (k + 1) = s.data.toList.take k ++ [s[k]] := by
  rw [List.take_succ_eq_append_getElem (by simpa using h)]; rfl

theorem cells_byte (l : List UInt8) (b : UInt8) : Lib.byteCells (l ++ [b]) = Lib.byteCells l ++ [.int .u8 (b.toNat : Int)] := by
  simp [Lib.byteCells]

set_option maxHeartbeats 1000000 in
theorem appendBytes_any (B : Nat) (v : Value) (l : List UInt8) (s : ByteArray) (w : World) (hB : B ≤ w.heap.size) (hlim : l.length + s.size ≤ 16777216) (hown : Buf B w v l) :
    Calls Try.prog 11 #[v, .string s] w fun e w' => ∃ v', e = .returned v' ∧ Buf B w' v' (l ++ s.data.toList) ∧ Below B w w' := by
  obtain ⟨i0, hi, hz0, hz1, hz2⟩ := info_parts Try.info5
  go_enter Try.func11, Try.ntmps11
  go_wp2
  go_loopw [0, 5] (fun vb vi wr => ∃ k : Nat, k ≤ s.size ∧ vi = .int .i64 k ∧ Buf B wr vb (l ++ s.data.toList.take k) ∧ Below B w wr) (fun _ vi _ => s.size - (intOf vi).toNat)
  case atStart => exact ⟨0, Nat.zero_le _, rfl, by simpa using hown, Below.refl _ _⟩
  case round =>
    obtain ⟨k, hk, rfl, hown1, hnx⟩ := hrel
    have hlen : (l ++ s.data.toList.take k).length = l.length + k := by simp; omega
    by_cases hlt : k < s.size
    · have HT : Hid (s.data.toList.take (k + 1) = s.data.toList.take k ++ [s[k]]) := take_byte s k hlt
      go_wp2_with (at_builtin; refine wpList_append_own _ rfl _ _ 26 rfl B 5 i0 (.int .u8 0) 1 1 Try.underlying26 hi hz0 hz1 hz2 rfl (by decide) _ _ _ rfl (World.ownsRow.alloc hown1 _) ⟨wr.heap.size, 0, none⟩ 1 1 [.int .u8 (s[k].toNat : Int)] rfl rfl ?c1 ?c2 ?c3 ?c4 ?c5 ?_)
      case c1 =>
        intro j u hj
        match j, hj with
        | 0, hj => simp at hj; subst hj; simp [Addr.add]
      case c2 => intro u hu; simp at hu; subst hu; rfl
      case c3 => unfold maxLen; omega
      case c4 => omega
      case c5 => have := hnx.size; simp; omega
      intro v' w1 hown' hgrow _
      have hnx1 : Below B w w1 := (hnx.alloc (by have := hnx.size; omega) _).grown hgrow (by have := hnx.size; simp; omega) (fun k hk => (World.ownsRow.lt hown1 k hk).1)
      go_wp2
      go_roundw
      case rel =>
        refine ⟨k + 1, by omega, by go_num, ?_, hnx1⟩
        rw [HT.out, ← List.append_assoc]
        unfold Buf
        rw [cells_byte, List.length_append, List.length_singleton, hlen]
        exact hown'
      case measure => simp [intOf]; omega
    · go_wp2
      go_ret
      have e : s.data.toList.take k = s.data.toList := List.take_of_length_le (by rw [← Lib.size_eq]; omega)
      rw [e] at hown1
      exact ⟨_, rfl, hown1, hnx⟩

set_option maxHeartbeats 8000000 in
set_option maxRecDepth 100000 in
theorem appendUvarint_any (B x : Nat) (v : Value) (l : List UInt8) (w : World) (hx : x < 18446744073709551616) (hB : B ≤ w.heap.size) (hlim : l.length ≤ 16777216) (hown : Buf B w v l) :
    Calls Try.prog 24 #[v, .int .u64 x] w fun e w' => ∃ v', e = .returned v' ∧ Buf B w' v' (l ++ Lib.uvarint x) ∧ Below B w w' := by
  obtain ⟨i0, hi, hz0, hz1, hz2⟩ := info_parts Try.info5
  have hlen := Lib.uvarint_length64 hx
  go_enter Try.func24, Try.ntmps24
  go_wp2
  go_loopw [0, 1] (fun vb vx wr => ∃ (y : Nat) (pre : List UInt8), vx = .int .u64 y ∧ y ≤ x ∧ Lib.uvarint x = pre ++ Lib.uvarint y ∧ Buf B wr vb (l ++ pre) ∧ Below B w wr)
    (fun _ vx _ => (intOf vx).toNat)
  case atStart => exact ⟨x, [], rfl, Nat.le_refl _, rfl, by simpa using hown, Below.refl _ _⟩
  case round =>
    obtain ⟨y, pre, rfl, hy, hsplit, hown1, hnx⟩ := hrel
    have hpl : pre.length + (Lib.uvarint y).length ≤ 10 := by
      have h2 := congrArg List.length hsplit
      rw [List.length_append] at h2
      omega
    have hyp := Lib.uvarint_pos y
    have hll : (l ++ pre).length = l.length + pre.length := List.length_append
    by_cases h128 : 128 ≤ y
    · have hor : bits .or .u8 ((y : Int) % 256) 128 = ((y % 128 + 128 : Nat) : Int) := by
        rw [Lib.u8_or128_any _ (by omega) (by omega)]
        omega
      go_wp2_with (at_builtin; refine wpList_append_own _ rfl _ _ 26 rfl B 5 i0 (.int .u8 0) 1 1 Try.underlying26 hi hz0 hz1 hz2 rfl (by decide) _ _ _ rfl (World.ownsRow.alloc hown1 _) ⟨wr.heap.size, 0, none⟩ 1 1 [Value.int .u8 ((y % 128 + 128 : Nat) : Int)] rfl rfl ?c1 ?c2 ?c3 ?c4 ?c5 ?_)
      case c1 =>
        intro j u hj
        match j, hj with
        | 0, hj => simp at hj; subst hj; simp [Addr.add]
      case c2 => intro u hu; simp at hu; subst hu; rfl
      case c3 => unfold maxLen; omega
      case c4 => omega
      case c5 => have := hnx.size; simp; omega
      intro v' w1 hown' hgrow _
      have hnx1 : Below B w w1 := (hnx.alloc (by have := hnx.size; omega) _).grown hgrow (by have := hnx.size; simp; omega) (fun k hk => (World.ownsRow.lt hown1 k hk).1)
      go_wp2
      go_roundw
      case rel =>
        refine ⟨y / 128, pre ++ [(y % 128 + 128).toUInt8], by go_num, by omega, by rw [hsplit, Lib.uvarint_big h128]; simp, ?_, hnx1⟩
        have ec : ((y % 128 + 128 : Nat) : Int) = (y : Int) % 128 + 128 := by omega
        unfold Buf
        rw [← List.append_assoc, Lib.byteCells_snoc (l ++ pre) (by omega), List.length_append, List.length_singleton, ec, hll]
        exact hown'
      case measure => simp [intOf]; omega
    · have hsm : Lib.uvarint y = [y.toUInt8] := Lib.uvarint_small (by omega)
      go_wp2_with (at_builtin; refine wpList_append_own _ rfl _ _ 26 rfl B 5 i0 (.int .u8 0) 1 1 Try.underlying26 hi hz0 hz1 hz2 rfl (by decide) _ _ _ rfl (World.ownsRow.alloc hown1 _) ⟨wr.heap.size, 0, none⟩ 1 1 [Value.int .u8 (y : Int)] rfl rfl ?c1 ?c2 ?c3 ?c4 ?c5 ?_)
      case c1 =>
        intro j u hj
        match j, hj with
        | 0, hj => simp at hj; subst hj; simp [Addr.add]
      case c2 => intro u hu; simp at hu; subst hu; rfl
      case c3 => unfold maxLen; omega
      case c4 => omega
      case c5 => have := hnx.size; simp; omega
      intro v' w1 hown' hgrow _
      have hnx1 : Below B w w1 := (hnx.alloc (by have := hnx.size; omega) _).grown hgrow (by have := hnx.size; simp; omega) (fun k hk => (World.ownsRow.lt hown1 k hk).1)
      go_wp2
      go_ret
      refine ⟨v', rfl, ?_, hnx1⟩
      unfold Buf
      rw [hsplit, hsm, ← List.append_assoc, Lib.byteCells_snoc (l ++ pre) (by omega), List.length_append, List.length_singleton, hll]
      exact hown'

/-- The code of a literal pattern: its tail, its text's length, its text. -/
def litCode (t : Nat) (s : ByteArray) : List UInt8 := t.toUInt8 :: (Lib.uvarint s.size ++ s.data.toList)

set_option maxHeartbeats 1000000 in
theorem appendLit_any (B : Nat) (v : Value) (l : List UInt8) (t : Nat) (s : ByteArray) (w : World) (ht : t < 256) (hB : B ≤ w.heap.size) (hlim : l.length + s.size ≤ 8388608) (hown : Buf B w v l) :
    Calls Try.prog 12 #[v, .int .u8 t, .string s] w fun e w' => ∃ v', e = .returned v' ∧ Buf B w' v' (l ++ litCode t s) ∧ Below B w w' := by
  obtain ⟨i0, hi, hz0, hz1, hz2⟩ := info_parts Try.info5
  have hu := Lib.uvarint_length64 (x := s.size) (by omega)
  go_enter Try.func12, Try.ntmps12
  go_wp2_with (at_builtin; refine wpList_append_own _ rfl _ _ 26 rfl B 5 i0 (.int .u8 0) 1 1 Try.underlying26 hi hz0 hz1 hz2 rfl (by decide) _ _ _ rfl (World.ownsRow.alloc hown _) ⟨w.heap.size, 0, none⟩ 1 1 [.int .u8 (t : Int)] rfl rfl ?c1 ?c2 ?c3 ?c4 ?c5 ?_)
  case c1 =>
    intro j u hj
    match j, hj with
    | 0, hj => simp at hj; subst hj; simp [Addr.add]
  case c2 => intro u hu; simp at hu; subst hu; rfl
  case c3 => unfold maxLen; omega
  case c4 => omega
  case c5 => simp; omega
  intro v1 w1 hown1 hgrow _
  have b1 : Below B w w1 := ((Below.refl B w).alloc hB _).grown hgrow (by simp; omega) (fun k hk => (World.ownsRow.lt hown k hk).1)
  have o1 : Buf B w1 v1 (l ++ [t.toUInt8]) := by
    unfold Buf
    rw [Lib.byteCells_snoc l ht, List.length_append, List.length_singleton]
    exact hown1
  clear hown1 hgrow hown
  go_wp2_with fail
  refine (appendUvarint_any B s.size v1 (l ++ [t.toUInt8]) _ (by omega) (by have := b1.size; omega) (by simp; omega) o1).mono ?_
  rintro e w2 ⟨v2, rfl, o2, b2⟩
  go_wp2_with fail
  refine (appendBytes_any B v2 _ s _ (by have := b1.size; have := b2.size; omega) (by simp; omega) o2).mono ?_
  rintro e w3 ⟨v3, rfl, o3, b3⟩
  go_wp2
  go_ret
  refine ⟨v3, rfl, ?_, (b1.trans b2).trans b3⟩
  have e : l ++ litCode t s = l ++ [t.toUInt8] ++ Lib.uvarint s.size ++ s.data.toList := by simp [litCode]
  rw [e]
  exact o3
end Go.Proofs.Qxb6605946a
