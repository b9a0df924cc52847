/-
  Walks over a slice of strings: zzAnyMatches, slices.IndexFunc and ContainsFunc at MatchAny's closure, MatchAny itself, zzStringsBytes, zzCloneStrings.
-/
import Derived.Test.Qxb6605946aMatch
import Derived.Test.Qxb6605946aRead
import Derived.OwnWalk
namespace Go.Proofs.Qxb6605946a
open Go.RowKit
set_option linter.unusedVariables false

/-- The slice value v leads to the strings ss. -/
def StrRow (w : World) (v : Value) (ss : List ByteArray) : Prop :=
  (∃ a cap, v = .slice a 0 cap ∧ ss = []) ∨
  (∃ b off cap, v = .slice (some ⟨b, off, none⟩) ss.length cap ∧ 0 < ss.length ∧ b < w.heap.size ∧ ∀ j, j < ss.length → w.cell? ⟨b, off + j, none⟩ = some (.string (ss.getD j ByteArray.empty)))

theorem StrRow.carry {w w' : World} {v : Value} {ss : List ByteArray} (h : StrRow w v ss) (hb : Below w.heap.size w w') : StrRow w' v ss := by
  rcases h with h | ⟨b, off, cap, rfl, h0, hlt, hc⟩
  · exact .inl h
  · exact .inr ⟨b, off, cap, rfl, h0, Nat.lt_of_lt_of_le hlt hb.size, fun j hj => (hb.cell (p := ⟨b, off + j, none⟩) hlt).trans (hc j hj)⟩

def anyB (lit : ByteArray) (t : Nat) (ss : List ByteArray) : Bool := ss.any (matchB lit t)

theorem any_hit {lit : ByteArray} {t : Nat} {ss : List ByteArray} (k : Nat) (hk : k < ss.length) (h : matchB lit t (ss.getD k ByteArray.empty) = true) : anyB lit t ss = true := by
  unfold anyB
  rw [List.any_eq_true]
  refine ⟨ss[k], List.getElem_mem hk, ?_⟩
  simpa [List.getD, List.getElem?_eq_getElem hk] using h

theorem any_miss {lit : ByteArray} {t : Nat} {ss : List ByteArray} (h : ∀ j, j < ss.length → matchB lit t (ss.getD j ByteArray.empty) = false) : anyB lit t ss = false := by
  unfold anyB
  rw [List.any_eq_false]
  intro x hx
  obtain ⟨j, hj, rfl⟩ := List.getElem_of_mem hx
  have := h j hj
  simp only [List.getD, List.getElem?_eq_getElem hj, Option.getD_some] at this
  rw [this]
  exact Bool.false_ne_true

theorem none_snoc {lit : ByteArray} {t : Nat} {ss : List ByteArray} {k : Nat} {s : ByteArray} (h : ∀ j, j < k → matchB lit t (ss.getD j ByteArray.empty) = false) (hs : s = ss.getD k ByteArray.empty) (hm : matchB lit t s = false) :
    ∀ j, j < k + 1 → matchB lit t (ss.getD j ByteArray.empty) = false := by
  intro j hj
  by_cases e : j = k
  · rw [e, ← hs]; exact hm
  · exact h j (by omega)

set_option maxHeartbeats 1000000 in
theorem anyMatches_none (lit : ByteArray) (t : Nat) (a : Option Addr) (cap : Nat) (w : World) :
    Calls Try.prog 15 #[.string lit, .int .u8 t, .slice a 0 cap] w fun e w' => e = .returned (.bool false) ∧ w = w' := by
  go_enter Try.func15, Try.ntmps15
  go_wp2
  refine wp_loop_rounds 1 ?_
  rw [rounds_succ]
  go_wp2
  go_ret
  exact ⟨rfl, rfl⟩

set_option maxHeartbeats 1000000 in
set_option maxRecDepth 10000 in
theorem anyMatches_some (lit : ByteArray) (t b off cap : Nat) (ss : List ByteArray) (w : World) (hl : lit.size ≤ 1048576) (ht : t ≤ 2) (hn : ss.length ≤ 1048576) (hss : ∀ s ∈ ss, s.size ≤ 1048576) (hb : b < w.heap.size)
    (hc : ∀ j, j < ss.length → w.cell? ⟨b, off + j, none⟩ = some (.string (ss.getD j ByteArray.empty))) :
    Calls Try.prog 15 #[.string lit, .int .u8 t, .slice (some ⟨b, off, none⟩) ss.length cap] w fun e w' => e = .returned (.bool (anyB lit t ss)) ∧ Below w.heap.size w w' := by
  obtain ⟨len, hlen⟩ : ∃ len, ss.length = len := ⟨_, rfl⟩
  have HC : Hid (∀ j, j < len → w.cell? ⟨b, off + j, none⟩ = some (.string (ss.getD j ByteArray.empty))) := by rw [← hlen]; exact hc
  have HN : Hid (ss.length = len) := hlen
  have HSS : Hid (∀ s ∈ ss, s.size ≤ 1048576) := hss
  rw [hlen] at hn ⊢
  clear hc hlen hss
  go_enter Try.func15, Try.ntmps15
  go_wp2
  go_loopw [7] (fun i wr => ∃ k : Nat, k ≤ len ∧ i = .int .i64 k ∧ (∀ j, j < k → matchB lit t (ss.getD j ByteArray.empty) = false) ∧ Below w.heap.size w wr) (fun i _ => len - (intOf i).toNat)
  case atStart => exact ⟨0, Nat.zero_le _, rfl, fun j hj => absurd hj (Nat.not_lt_zero _), Below.refl _ _⟩
  case round =>
    obtain ⟨k, hk, rfl, hall, hbel⟩ := hrel
    have HA : Hid (∀ j, j < k → matchB lit t (ss.getD j ByteArray.empty) = false) := hall
    clear hall
    by_cases hlt : k < len
    · obtain ⟨s, hs⟩ : ∃ s, s = ss.getD k ByteArray.empty := ⟨_, rfl⟩
      have hcx : wr.cell? ⟨b, off + k, none⟩ = some (.string s) := by rw [hs]; exact (hbel.cell (p := ⟨b, off + k, none⟩) hb).trans (HC.out k hlt)
      have hsz : s.size ≤ 1048576 := by
        rw [hs]
        have hk2 : k < ss.length := by rw [HN.out]; exact hlt
        simp only [List.getD, List.getElem?_eq_getElem hk2, Option.getD_some]
        exact HSS.out _ (List.getElem_mem hk2)
      have HS : Hid (s = ss.getD k ByteArray.empty) := hs
      clear hs
      have hbs : b < wr.heap.size := Nat.lt_of_lt_of_le hb hbel.size
      cases hm : matchB lit t s with
      | true =>
        have hcall := lit_any lit s t wr hsz hl ht
        rw [hm] at hcall
        have HM : Hid (matchB lit t s = true) := hm
        clear hm
        go_wp2_with (go_at_call 29; refine hcall.mono ?_; rintro e w1 ⟨rfl, b1⟩)
        go_ret
        exact ⟨ret_bools (any_hit k (by rw [HN.out]; exact hlt) (by rw [← HS.out]; exact HM.out)).symm, hbel.trans (b1.mono hbel.size)⟩
      | false =>
        have hcall := lit_any lit s t wr hsz hl ht
        rw [hm] at hcall
        have HM : Hid (matchB lit t s = false) := hm
        clear hm
        go_wp2_with (go_at_call 29; refine hcall.mono ?_; rintro e w1 ⟨rfl, b1⟩)
        go_roundw
        case rel => exact ⟨k + 1, by omega, by go_num, none_snoc HA.out HS.out HM.out, hbel.trans (b1.mono hbel.size)⟩
        case measure => simp [intOf]; omega
    · go_wp2
      go_ret
      have hkn : k = len := by omega
      subst hkn
      exact ⟨ret_bools (any_miss (by rw [HN.out]; exact HA.out)).symm, hbel⟩

theorem anyMatches_any (lit : ByteArray) (t : Nat) (v : Value) (ss : List ByteArray) (w : World) (hl : lit.size ≤ 1048576) (ht : t ≤ 2) (hn : ss.length ≤ 1048576) (hss : ∀ s ∈ ss, s.size ≤ 1048576) (h : StrRow w v ss) :
    Calls Try.prog 15 #[.string lit, .int .u8 t, v] w fun e w' => e = .returned (.bool (anyB lit t ss)) ∧ Below w.heap.size w w' := by
  rcases h with ⟨a, cap, rfl, rfl⟩ | ⟨b, off, cap, rfl, _, hb, hc⟩
  · refine (anyMatches_none lit t a cap w).mono ?_
    rintro e w' ⟨rfl, rfl⟩
    exact ⟨rfl, Below.refl _ _⟩
  · exact anyMatches_some lit t b off cap ss w hl ht hn hss hb hc
end Go.Proofs.Qxb6605946a
