/-
  zzCloneBytes; zzCloneStrings in the form that the code walk wants.
-/
import Derived.Test.Qxb6605946aSums
import Derived.Test.Qxb6605946aBuf
namespace Go.Proofs.Qxb6605946a
open Go.RowKit
set_option linter.unusedVariables false

/-- A row of bytes, its address told only where it has an element. -/
def ByteAt (w : World) (a : Option Addr) (zs : List Int) : Prop :=
  0 < zs.length → ∃ b off, a = some ⟨b, off, none⟩ ∧ b < w.heap.size ∧ ∀ j, j < zs.length → w.cell? ⟨b, off + j, none⟩ = some (.int .u8 (zs.getD j 0))

theorem ByteAt.carry {w w' : World} {a : Option Addr} {zs : List Int} (h : ByteAt w a zs) (hb : Below w.heap.size w w') : ByteAt w' a zs := by
  intro h0
  obtain ⟨b, off, rfl, hlt, hc⟩ := h h0
  exact ⟨b, off, rfl, Nat.lt_of_lt_of_le hlt hb.size, fun j hj => (hb.cell (p := ⟨b, off + j, none⟩) hlt).trans (hc j hj)⟩

theorem StrAt.carry {w w' : World} {a : Option Addr} {ss : List ByteArray} (h : StrAt w a ss) (hb : Below w.heap.size w w') : StrAt w' a ss := by
  intro h0
  obtain ⟨b, off, rfl, hlt, hc⟩ := h h0
  exact ⟨b, off, rfl, Nat.lt_of_lt_of_le hlt hb.size, fun j hj => (hb.cell (p := ⟨b, off + j, none⟩) hlt).trans (hc j hj)⟩

theorem bytes_snoc {c : Array Value} {k : Nat} {zs : List Int} {s : Int} (h : ∀ j, j < k → c[j]? = some (.int .u8 (zs.getD j 0))) (hk : k < c.size) (hs : s = zs.getD k 0) :
    ∀ j, j < k + 1 → (c.setIfInBounds k (.int .u8 s))[j]? = some (.int .u8 (zs.getD j 0)) := by
  intro j hj
  by_cases e : j = k
  · subst e
    rw [Array.getElem?_setIfInBounds_self_of_lt hk, hs]
  · rw [Array.getElem?_setIfInBounds_ne (by omega)]
    exact h j (by omega)

set_option maxHeartbeats 1000000 in
theorem cloneBytes_nil (cap : Nat) (w : World) :
    Calls Try.prog 19 #[.slice none 0 cap] w fun e w' => e = .returned (.slice none 0 0) ∧ w = w' := by
  have hnil := fun (w : World) => Lib.run_eql_slice_nil (P := Try.prog) w 26 5 none 0 cap 0 0 Try.underlying26
  go_enter Try.func19, Try.ntmps19
  go_wp2
  go_ret
  exact ⟨rfl, rfl⟩

set_option maxHeartbeats 1000000 in
theorem cloneBytes_some (x : Addr) (len cap : Nat) (zs : List Int) (w : World) (hlen : Hid (zs.length = len)) (hn : len ≤ 1048576) (hat : Hid (ByteAt w (some x) zs)) :
    Calls Try.prog 19 #[.slice (some x) len cap] w fun e w' => ∃ c : Array Value, e = .returned (.slice (some ⟨w.heap.size, 0, none⟩) len len) ∧ w' = w.alloc (.cells c 5) ∧ c.size = len ∧ ∀ j, j < len → c[j]? = some (.int .u8 (zs.getD j 0)) := by
  obtain ⟨i0, hi, hz0, hz1, hz2⟩ := info_parts Try.info5
  have hmk := run_make (P := Try.prog) w 26 5 i0 (.int .u8 0) Try.underlying26 hi hz0 .i64 .i64 len len (by omega) (by omega) (by rw [hz2]; omega) (by omega)
  simp only [Int.toNat_natCast, hz1, Nat.mul_one] at hmk
  have hms := size_madeCells (Value.int .u8 0).cells len
  generalize madeCells (Value.int .u8 0).cells len = c0 at hmk hms
  clear hi hz0 hz1 hz2
  have hnil := fun (w : World) => Lib.run_eql_slice_nil (P := Try.prog) w 26 5 (some x) len cap 0 0 Try.underlying26
  go_enter Try.func19, Try.ntmps19
  go_wp2
  go_loopw [4] (fun i wr => ∃ (k : Nat) (c : Array Value), k ≤ len ∧ i = .int .i64 k ∧ wr = w.alloc (.cells c 5) ∧ c.size = len ∧ ∀ j, j < k → c[j]? = some (.int .u8 (zs.getD j 0))) (fun i _ => len - (intOf i).toNat)
  case atStart => exact ⟨0, c0, Nat.zero_le _, rfl, rfl, hms, fun j hj => absurd hj (Nat.not_lt_zero _)⟩
  case round =>
    obtain ⟨k, c, hk, rfl, rfl, hcs, hall⟩ := hrel
    have HA : Hid (∀ j, j < k → c[j]? = some (.int .u8 (zs.getD j 0))) := hall
    clear hall hmk hms
    by_cases hlt : k < len
    · obtain ⟨b, off, hx, hb, hc⟩ := hat.out (by rw [hlen.out]; omega)
      injection hx with hx
      subst hx
      obtain ⟨s, hs⟩ : ∃ s, s = zs.getD k 0 := ⟨_, rfl⟩
      have hcx : (w.alloc (.cells c 5)).cell? ⟨b, off + k, none⟩ = some (.int .u8 s) := by rw [World.cell?_alloc_lt _ _ _ hb, hs]; exact hc k (by rw [hlen.out]; exact hlt)
      obtain ⟨v0, hv0⟩ : ∃ v0, c[k]? = some v0 := ⟨c[k]'(by omega), Array.getElem?_eq_getElem _⟩
      have HS : Hid (s = zs.getD k 0) := hs
      have HC : Hid (c.size = len) := hcs
      clear hs hcs hc
      go_wp2
      go_roundw
      case rel => exact ⟨k + 1, _, by omega, by go_num, rfl, by simpa using HC.out, bytes_snoc HA.out (by rw [HC.out]; exact hlt) HS.out⟩
      case measure => simp [intOf]; omega
    · go_wp2
      go_ret
      have hkn : k = len := by omega
      subst hkn
      exact ⟨c, rfl, rfl, hcs, HA.out⟩

theorem cloneBytes_any (a : Option Addr) (len cap : Nat) (zs : List Int) (w : World) (hlen : zs.length = len) (hn : len ≤ 1048576) (hat : ByteAt w a zs) :
    Calls Try.prog 19 #[.slice a len cap] w fun e w' => ∃ a' cap', e = .returned (.slice a' len cap') ∧ ByteAt w' a' zs ∧ Below w.heap.size w w' := by
  cases a with
  | none =>
    have h0 : len = 0 := by
      by_cases h : 0 < zs.length
      · obtain ⟨b, off, hx, _⟩ := hat h
        cases hx
      · omega
    subst h0
    refine (cloneBytes_nil cap w).mono ?_
    rintro e w' ⟨rfl, rfl⟩
    exact ⟨none, 0, rfl, fun h => by omega, Below.refl _ _⟩
  | some x =>
    refine (cloneBytes_some x len cap zs w hlen hn hat).mono ?_
    rintro e w' ⟨c, rfl, rfl, hcs, hall⟩
    refine ⟨_, _, rfl, fun _ => ⟨w.heap.size, 0, rfl, by simp, fun j hj => ?_⟩, (Below.refl _ _).alloc (Nat.le_refl _) _⟩
    rw [Nat.zero_add, World.cell?_alloc_at _ _ _ _ rfl]
    exact hall j (by omega)

theorem cloneStrs_any (a : Option Addr) (len cap : Nat) (ss : List ByteArray) (w : World) (hlen : ss.length = len) (hn : len ≤ 1048576) (hat : StrAt w a ss) :
    Calls Try.prog 10 #[.slice a len cap] w fun e w' => ∃ a' cap', e = .returned (.slice a' len cap') ∧ StrAt w' a' ss ∧ Below w.heap.size w w' := by
  have hrow := hat.row cap
  rw [hlen] at hrow
  refine (clone_any _ ss w (by omega) hrow).mono ?_
  rintro e w' ⟨v', rfl, hr, hb⟩
  rcases hr with ⟨a', cap', rfl, rfl⟩ | ⟨b, off, cap', rfl, h0, hlt, hc⟩
  · simp only [List.length_nil] at hlen
    subst hlen
    exact ⟨a', cap', rfl, fun h => absurd h (Nat.lt_irrefl _), hb⟩
  · rw [hlen]
    exact ⟨_, cap', rfl, fun _ => ⟨b, off, rfl, hlt, hc⟩, hb⟩
end Go.Proofs.Qxb6605946a
