/-
  Walks of zzPairs, zzLookup, zzFigureMap.
-/
import Derived.Test.Qxb6608540aAgainst
import Derived.Test.Qxb6608540aStrides
import Derived.Lib.Strings
import Derived.Maps.OwnSet
import Derived.BigRegion
namespace Go.Proofs.Qxb6608540a
open Go.RowKit Go.Lib Go.Maps
set_option linter.unusedVariables false

/-- A row of strings, its address told only where it has an element. -/
def StrAt (w : World) (a : Option Addr) (ss : List ByteArray) : Prop :=
  0 < ss.length → ∃ b off, a = some ⟨b, off, none⟩ ∧ b < w.heap.size ∧ ∀ j, j < ss.length → w.cell? ⟨b, off + j, none⟩ = some (.string (ss.getD j ByteArray.empty))

theorem StrAt.carry {w w' : World} {a : Option Addr} {ss : List ByteArray} (h : StrAt w a ss) (hb : Below w.heap.size w w') : StrAt w' a ss := by
  intro h0
  obtain ⟨b, off, rfl, hlt, hc⟩ := h h0
  exact ⟨b, off, rfl, Nat.lt_of_lt_of_le hlt hb.size, fun j hj => (hb.cell (p := ⟨b, off + j, none⟩) hlt).trans (hc j hj)⟩

/-- What a map filled pair by pair holds at of, after k pairs. -/
def lookTo (ks : List ByteArray) (vs : List Int) (of : ByteArray) : Nat → Int
  | 0 => 0
  | k + 1 => if ks.getD k ByteArray.empty = of then vs.getD k 0 else lookTo ks vs of k

theorem run_makeMap_hint (n : Int) (w : World) : (Instr.makeMap 33 (some (.int .i64 n))).run Try.prog w = .ok (.map (some w.heap.size)) (w.alloc (.map #[] 0)) := by
  simp [Instr.makeMap, run_underlying Try.underlying33, asInt, asIntOf]

theorem str_beq (a b : ByteArray) : (a.toList == b.toList) = decide (a = b) := by
  rw [Bool.eq_iff_iff, beq_iff_eq, decide_eq_true_eq, Lib.toList_data, Lib.toList_data]
  constructor
  · intro h
    exact ByteArray.ext (Array.toList_inj.mp h)
  · intro h
    rw [h]

set_option maxHeartbeats 1000000 in
theorem pairs_any (ak av : Option Addr) (nk nv ck cv : Nat) (w : World) :
    Calls Try.prog 30 #[.slice ak nk ck, .slice av nv cv] w fun e w' => e = .returned (.int .i64 ((min nk nv : Nat) : Int)) ∧ w = w' := by
  by_cases h : nv < nk
  · have e : min nk nv = nv := by omega
    rw [e]
    clear e
    go_enter Try.func30, Try.ntmps30
    go_wp2
    go_ret
    exact ⟨rfl, rfl⟩
  · have e : min nk nv = nk := by omega
    rw [e]
    clear e
    go_enter Try.func30, Try.ntmps30
    go_wp2
    go_ret
    exact ⟨rfl, rfl⟩

set_option maxHeartbeats 1000000 in
theorem lookup_any (ak av : Option Addr) (nk nv ck cv n : Nat) (of : ByteArray) (ks : List ByteArray) (vs : List Int) (w : World) (hn : Hid (n = min nk nv)) (hnn : n ≤ 1048576) (hks : Hid (ks.length = nk)) (hvs : Hid (vs.length = nv)) (hk : Hid (StrAt w ak ks)) (hv : Hid (IntAt w av vs)) :
    Calls Try.prog 21 #[.slice ak nk ck, .slice av nv cv, .string of] w fun e w' => e = .returned (.int .i64 (lookTo ks vs of n)) ∧ w = w' := by
  have hp := pairs_any ak av nk nv ck cv w
  rw [← hn.out] at hp
  have hn1 : n ≤ nk := by have := hn.out; omega
  have hn2 : n ≤ nv := by have := hn.out; omega
  go_enter Try.func21, Try.ntmps21
  go_wp2_with (go_at_call 30; refine hp.mono ?_; rintro e w' ⟨rfl, rfl⟩)
  clear hp
  go_loop [8, 9] (fun v8 v9 => ∃ k : Nat, k ≤ n ∧ v9 = .int .i64 k ∧ v8 = .int .i64 (lookTo ks vs of k)) (fun _ v9 => n - (intOf v9).toNat)
  case atStart => exact ⟨0, Nat.zero_le _, rfl, rfl⟩
  case round =>
    obtain ⟨k, hkn, rfl, rfl⟩ := hrel
    obtain ⟨L, hL⟩ : ∃ L, L = lookTo ks vs of k := ⟨_, rfl⟩
    have HL : Hid (L = lookTo ks vs of k) := hL
    rw [← hL]
    clear hL
    by_cases hlt : k < n
    · obtain ⟨bk, ok, rfl, hbk, hck⟩ := hk.out (by rw [hks.out]; omega)
      obtain ⟨bv, ov, rfl, hbv, hcv⟩ := hv.out (by rw [hvs.out]; omega)
      have h1 := hck k (by rw [hks.out]; omega)
      have h2 := hcv k (by rw [hvs.out]; omega)
      obtain ⟨s, hs⟩ : ∃ s, s = ks.getD k ByteArray.empty := ⟨_, rfl⟩
      obtain ⟨x, hx⟩ : ∃ x, x = vs.getD k 0 := ⟨_, rfl⟩
      rw [← hs] at h1
      rw [← hx] at h2
      have HS : Hid (s = ks.getD k ByteArray.empty) := hs
      have HX : Hid (x = vs.getD k 0) := hx
      clear hck hcv hs hx
      by_cases he : s = of
      · have hb : (s.toList == of.toList) = true := by rw [str_beq]; simpa using he
        have HE : Hid (s = of) := he
        clear he
        go_wp2
        go_round
        case rel => exact ⟨k + 1, by omega, by go_num, by rw [lookTo, if_pos (by rw [← HS.out]; exact HE.out), HX.out]⟩
        case measure => simp [intOf]; omega
      · have hb : (s.toList == of.toList) = false := by rw [str_beq]; simpa using he
        have HE : Hid (¬ s = of) := he
        clear he
        go_wp2
        go_round
        case rel => exact ⟨k + 1, by omega, by go_num, by rw [lookTo, if_neg (by rw [← HS.out]; exact HE.out), HL.out]⟩
        case measure => simp [intOf]; omega
    · go_wp2
      go_ret
      have e : k = n := by omega
      subst e
      rw [HL.out]
      exact ⟨rfl, rfl⟩

/-- The map reads, at every key, as the pairs say. -/
def Holds (D : DataW Unit) (ks : List ByteArray) (vs : List Int) (k : Nat) : Prop :=
  ∀ of : ByteArray, D.atKey (.string of.data.toList) (.lit (.int .i64 0)) = .lit (.int .i64 (lookTo ks vs of k))

theorem holds_zero (ks : List ByteArray) (vs : List Int) : Holds (.map []) ks vs 0 := fun _ => rfl

theorem holds_succ {D : DataW Unit} {ks : List ByteArray} {vs : List Int} {k : Nat} {s : ByteArray} {x : Int} (hm : IsMap D) (h : Holds D ks vs k) (hs : s = ks.getD k ByteArray.empty) (hx : x = vs.getD k 0) :
    Holds (D.put (.string s.data.toList) (.lit (.int .i64 x))) ks vs (k + 1) := by
  intro of
  rw [lookTo, ← hs]
  by_cases e : s = of
  · subst e
    rw [if_pos rfl, atKey_put_same (k := .string s.data.toList) hm trivial, hx]
  · rw [if_neg e, atKey_put_other ?_, h of]
    intro hc
    injection hc with hc
    exact e (ByteArray.ext (Array.toList_inj.mp hc.symm))

set_option maxHeartbeats 2000000 in
theorem figureMap_any (ak av : Option Addr) (nk nv ck cv n : Nat) (ks : List ByteArray) (vs : List Int) (w : World) (hn : Hid (n = min nk nv)) (hnn : n ≤ 1048576) (hks : Hid (ks.length = nk)) (hvs : Hid (vs.length = nv))
    (hkz : Hid (∀ s ∈ ks, s.size ≤ maxLen)) (hvz : Hid (∀ j, (Lit.int .i64 (vs.getD j 0)).wf = true)) (hk : Hid (StrAt w ak ks)) (hv : Hid (IntAt w av vs)) :
    Calls Try.prog 19 #[.slice ak nk ck, .slice av nv cv] w fun e w' => e = .returned (.map (some w.heap.size)) ∧ (∃ D : DataW Unit, w'.ownsMap Try.prog 31 (plainElem Try.prog 32) w.heap.size n D ∧ Holds D ks vs n) ∧ Below w.heap.size w w' := by
  have hp := pairs_any ak av nk nv ck cv w
  rw [← hn.out] at hp
  have hn1 : n ≤ nk := by have := hn.out; omega
  have hn2 : n ≤ nv := by have := hn.out; omega
  have hmm := run_makeMap_hint n w
  go_enter Try.func19, Try.ntmps19
  go_wp2_with (go_at_call 30; refine hp.mono ?_; rintro e w' ⟨rfl, rfl⟩)
  clear hp hmm
  go_loopw [7] (fun v7 wr => ∃ (k : Nat) (D : DataW Unit), k ≤ n ∧ v7 = .int .i64 k ∧ wr.ownsMap Try.prog 31 (plainElem Try.prog 32) w.heap.size k D ∧ Holds D ks vs k ∧ Below w.heap.size w wr) (fun v7 _ => n - (intOf v7).toNat)
  case atStart => exact ⟨0, _, Nat.zero_le _, rfl, World.ownsMap_made _ _ _ _, holds_zero _ _, (Below.refl _ _).alloc (Nat.le_refl _) _⟩
  case round =>
    obtain ⟨k, D, hkn, rfl, hown, hD, hbr⟩ := hrel
    have HOWN : Hid (wr.ownsMap Try.prog 31 (plainElem Try.prog 32) w.heap.size k D) := hown
    have HD : Hid (Holds D ks vs k) := hD
    clear hown hD
    by_cases hlt : k < n
    · obtain ⟨bk, ok, rfl, hbk, hck⟩ := hk.out (by rw [hks.out]; omega)
      obtain ⟨bv, ov, rfl, hbv, hcv⟩ := hv.out (by rw [hvs.out]; omega)
      have h1 := (hbr.cell (p := ⟨bk, ok + k, none⟩) hbk).trans (hck k (by rw [hks.out]; omega))
      have h2 := (hbr.cell (p := ⟨bv, ov + k, none⟩) hbv).trans (hcv k (by rw [hvs.out]; omega))
      have hsz : (ks.getD k ByteArray.empty).size ≤ maxLen := by
        have hk2 : k < ks.length := by rw [hks.out]; omega
        simp only [List.getD, List.getElem?_eq_getElem hk2, Option.getD_some]
        exact hkz.out _ (List.getElem_mem hk2)
      have hwf := hvz.out k
      obtain ⟨s, hs⟩ : ∃ s, s = ks.getD k ByteArray.empty := ⟨_, rfl⟩
      obtain ⟨x, hx⟩ : ∃ x, x = vs.getD k 0 := ⟨_, rfl⟩
      rw [← hs] at h1 hsz
      rw [← hx] at h2 hwf
      have HS : Hid (s = ks.getD k ByteArray.empty) := hs
      have HX : Hid (x = vs.getD k 0) := hx
      obtain ⟨w1, hrun, hown1, hgrow1⟩ := (World.ownsMap.drew HOWN.out).update law31 Try.underlying33 (show k < maxLen by unfold maxLen; omega) (Go.WideMaps.keyOf_string_mk Try.underlying31 hsz) (plainElem_int Try.underlying32 hwf)
      have HO1 : Hid (w1.ownsMap Try.prog 31 (plainElem Try.prog 32) w.heap.size (k + 1) (D.put (.string s.data.toList) (.lit (.int .i64 x)))) := hown1
      have HG1 : Hid (wr.drew.grownBy w1 (some w.heap.size)) := hgrow1
      have hkL : (k : Int) < (nk : Int) := by omega
      have hkV : (k : Int) < (nv : Int) := by omega
      clear hck hcv hs hx hown1 hgrow1 hwf hsz
      go_wp2_with fail
      go_region
      go_wp2
      go_roundw
      case rel => exact ⟨k + 1, _, by omega, by go_num, HO1.out, holds_succ HOWN.out.isMap HD.out HS.out HX.out, (hbr.drew).grown HG1.out hbr.size (fun j hj => by injection hj with hj; omega)⟩
      case measure => simp [intOf]; omega
    · go_wp2
      go_ret
      have e : k = n := by omega
      subst e
      exact ⟨rfl, ⟨D, HOWN.out, HD.out⟩, hbr⟩
end Go.Proofs.Qxb6608540a
