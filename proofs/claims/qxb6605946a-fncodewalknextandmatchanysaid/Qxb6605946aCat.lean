/-
  Plain: the code of many literal patterns, one behind another.
-/
import Derived.Test.Qxb6605946aBytes
import Derived.Test.Qxb6605946aNextWalk
namespace Go.Proofs.Qxb6605946a
open Go.RowKit
set_option linter.unusedVariables false

/-- The code of the first k patterns. -/
def cat (zs : List Int) (ls : List ByteArray) : Nat → List UInt8
  | 0 => []
  | k + 1 => cat zs ls k ++ litCode (zs.getD k 0).toNat (ls.getD k ByteArray.empty)

theorem litCode_length (t : Nat) (s : ByteArray) : (litCode t s).length = 1 + (Lib.uvarint s.size).length + s.size := by
  simp [litCode]; omega

theorem cat_succ_length (zs : List Int) (ls : List ByteArray) (k : Nat) :
    (cat zs ls (k + 1)).length = (cat zs ls k).length + 1 + (Lib.uvarint (ls.getD k ByteArray.empty).size).length + (ls.getD k ByteArray.empty).size := by
  rw [cat, List.length_append, litCode_length]; omega

theorem cat_split (zs : List Int) (ls : List ByteArray) (k : Nat) : ∀ d, ∃ R, cat zs ls (k + d) = cat zs ls k ++ R
  | 0 => ⟨[], by simp⟩
  | d + 1 => by
    obtain ⟨R, h⟩ := cat_split zs ls k d
    refine ⟨R ++ litCode (zs.getD (k + d) 0).toNat (ls.getD (k + d) ByteArray.empty), ?_⟩
    rw [show k + (d + 1) = (k + d) + 1 by omega, cat, h, List.append_assoc]

theorem cat_drop (zs : List Int) (ls : List ByteArray) (k n : Nat) (h : k < n) :
    ∃ r, (cat zs ls n).drop (cat zs ls k).length = (zs.getD k 0).toNat.toUInt8 :: (Lib.uvarint (ls.getD k ByteArray.empty).size ++ ((ls.getD k ByteArray.empty).data.toList ++ r)) := by
  obtain ⟨R, hR⟩ := cat_split zs ls (k + 1) (n - (k + 1))
  rw [show k + 1 + (n - (k + 1)) = n by omega] at hR
  refine ⟨R, ?_⟩
  rw [hR, cat, List.append_assoc, List.drop_left]
  simp [litCode]

theorem sumTo_mono (ls : List ByteArray) (k : Nat) : ∀ d, sumTo ls k ≤ sumTo ls (k + d)
  | 0 => Nat.le_refl _
  | d + 1 => Nat.le_trans (sumTo_mono ls k d) (by rw [show k + (d + 1) = (k + d) + 1 by omega, sumTo]; omega)

theorem sumTo_le (ls : List ByteArray) {k n : Nat} (h : k ≤ n) : sumTo ls k ≤ sumTo ls n := by
  have := sumTo_mono ls k (n - k)
  rwa [show k + (n - k) = n by omega] at this

theorem uv_short {x : Nat} (h : x ≤ 1048576) : (Lib.uvarint x).length ≤ 10 := Lib.uvarint_length64 (by omega)

theorem cat_le (zs : List Int) (ls : List ByteArray) (n : Nat) (hs : sumTo ls n ≤ 1048576) : ∀ k, k ≤ n → (cat zs ls k).length ≤ 11 * k + sumTo ls k
  | 0, _ => by simp [cat]
  | k + 1, h => by
    have ih := cat_le zs ls n hs k (by omega)
    have h1 := sumTo_le ls h
    rw [cat_succ_length, sumTo]
    rw [sumTo] at h1
    have := uv_short (x := (ls.getD k ByteArray.empty).size) (by omega)
    omega

theorem cat_pos (zs : List Int) (ls : List ByteArray) (k : Nat) (h : 0 < k) : 0 < (cat zs ls k).length := by
  obtain ⟨m, rfl⟩ : ∃ m, k = m + 1 := ⟨k - 1, by omega⟩
  rw [cat_succ_length]; omega

/-- The starts of the first k patterns, as cells. -/
def stCells (zs : List Int) (ls : List ByteArray) (k : Nat) : List Value := (List.range k).map fun j => .int .i64 ((cat zs ls j).length : Int)

theorem stCells_length (zs : List Int) (ls : List ByteArray) (k : Nat) : (stCells zs ls k).length = k := by simp [stCells]
theorem stCells_succ (zs : List Int) (ls : List ByteArray) (k : Nat) : stCells zs ls (k + 1) = stCells zs ls k ++ [.int .i64 ((cat zs ls k).length : Int)] := by
  simp [stCells, List.range_succ]
theorem stCells_at (zs : List Int) (ls : List ByteArray) (k j : Nat) (h : j < k) : (stCells zs ls k)[j]? = some (.int .i64 ((cat zs ls j).length : Int)) := by
  simp [stCells, h]

/-- A buffer's value is a slice of its length. -/
theorem buf_slice {B : Nat} {w : World} {v : Value} {l : List UInt8} (h : Buf B w v l) : ∃ x cap, v = .slice x l.length cap := by
  rcases h.2 with ⟨rfl, hn⟩ | ⟨g, cap, cur, rfl, _⟩
  · exact ⟨none, 0, by rw [hn]⟩
  · exact ⟨_, cap, rfl⟩

theorem Try.info3 : (Try.prog.info? 3).map (fun i => (i.zero, i.size, i.bytes)) = some (some (.int .i64 0), 1, 8) := by kernel_rfl

/-- 'starts = append(starts, len(buf))' grows row g alone: a buffer from g + 1 on is kept. -/
theorem buf_kept {g : Nat} {w w' : World} {v : Value} {l : List UInt8} (h : Buf (g + 1) w v l) (hg : w.grownBy w' (some g)) : Buf (g + 1) w' v l := by
  refine World.ownsRow.kept h hg ?_
  cases hv : v.ownBlock with
  | none => exact .inl rfl
  | some k =>
    right
    intro hc
    have := (World.ownsRow.lt h k hv).1
    injection hc with hc
    omega

/-- What lies below g is kept too. -/
theorem below_kept {g : Nat} {W w w' : World} (h : Below g W w) (hg : w.grownBy w' (some g)) (hs : g ≤ w.heap.size) : Below g W w' :=
  h.grown hg hs (fun k hk => by injection hk with hk; omega)

/-- A buffer from g + 1 on has grown: row g is kept. -/
theorem row_kept {g n cap : Nat} {e : TypeId} {w w' : World} {xs : List Value} (h : w.ownsRow g e 1 (.slice (some ⟨g, 0, none⟩) n cap) n xs) (hb : Below (g + 1) w w') : w'.ownsRow g e 1 (.slice (some ⟨g, 0, none⟩) n cap) n xs := by
  refine ⟨h.1, ?_⟩
  rcases h.2 with hn | ⟨g', cap', cur, hv, hle, hgg, rest⟩
  · exact .inl hn
  · refine .inr ⟨g', cap', cur, hv, hle, ?_, rest⟩
    simp only [Value.slice.injEq, Option.some.injEq, Addr.mk.injEq, and_true, true_and] at hv
    obtain ⟨rfl, rfl⟩ := hv
    rw [hb.block g (by omega)]
    exact hgg
end Go.Proofs.Qxb6605946a
