/-
  Walks of (sumPosition).base, againstShare, ZZsumPositionAgainstShare: a map that is looked up through a struct.
-/
import Derived.Test.Qxb6608540aShare
import Derived.Maps.Own
import Derived.Maps.OwnOps
import Derived.Maps.Views
import Derived.Deep.RegionWith
import Derived.RegionTactic
namespace Go.Proofs.Qxb6608540a
open Go.RowKit Go.Lib Go.Maps
set_option linter.unusedVariables false

theorem bcell {W w1 : World} (hb : Below W.heap.size W w1) : ∀ b o, b < W.heap.size → w1.cell? ⟨b, o, none⟩ = W.cell? ⟨b, o, none⟩ :=
  fun b o h => hb.cell (p := ⟨b, o, none⟩) h

theorem below_chain {w w1 w2 w3 : World} {o : Obj} (b1 : Below (w.alloc o).drew.heap.size (w.alloc o).drew w1) (b2 : Below w1.heap.size w1 w2) (b3 : Below w2.heap.size w2 w3) : Below w.heap.size w w3 := by
  have h0 : Below w.heap.size w (w.alloc o).drew := ((Below.refl w.heap.size w).alloc (Nat.le_refl _) o).drew
  have h1 := h0.trans (b1.mono h0.size)
  have h2 := h1.trans (b2.mono h1.size)
  exact h2.trans (b3.mono h2.size)

theorem law31 : Keyed Try.prog 31 := string_keyed Try.underlying31
theorem zero32 (w : World) : (zeroValue 32).run Try.prog w = .ok (.int .i64 0) w := by kernel_rfl

/-- The map in block B holds c at the key of. -/
def Looks (w : World) (B : Nat) (of : ByteArray) (c : Int) : Prop :=
  ∀ w', Below w.heap.size w w' → (Instr.lookup 33 (.map (some B)) (.string of) false).run Try.prog w' = .ok (.int .i64 c) w'

theorem Looks.carry {w w' : World} {B : Nat} {of : ByteArray} {c : Int} (h : Looks w B of c) (hb : Below w.heap.size w w') : Looks w' B of c :=
  fun w2 h2 => h w2 (hb.trans (h2.mono hb.size))

theorem looks_of {w : World} {B n : Nat} {D : DataW Unit} {of : ByteArray} {c : Int} (h : w.ownsMap Try.prog 31 (plainElem Try.prog 32) B n D) (hs : of.size ≤ maxLen)
    (hat : D.atKey (.string of.data.toList) (.lit (.int .i64 0)) = .lit (.int .i64 c)) : Looks w B of c := by
  intro w' hb
  have hlt := h.lt
  obtain ⟨es, clock, hbk, F, hsz, hD⟩ := h
  have h' : w'.ownsMap Try.prog 31 (plainElem Try.prog 32) B n D := ⟨es, clock, (hb.block B hlt).trans hbk, F, hsz, hD⟩
  obtain ⟨c', hrun, hat', _⟩ := h'.lookup_int law31 Try.underlying33 Try.underlying32 (zero32 _) (Go.WideMaps.keyOf_string_mk Try.underlying31 hs)
  rw [hat] at hat'
  injection hat' with e
  injection e with _ e
  rw [e]
  exact hrun

set_option maxHeartbeats 1000000 in
theorem base_any (h l c : Int) (B : Nat) (of : ByteArray) (w : World) (hL : Looks w B of c) :
    Calls Try.prog 35 #[.agg #[.int .u64 h, .int .u64 l, .map (some B)], .string of] w fun e w' => e = .returned (.int .i64 (absV c)) ∧ Below w.heap.size w w' := by
  have hl := hL _ ((Below.refl w.heap.size w).alloc (Nat.le_refl _) (.cells #[.int .u64 h, .int .u64 l, .map (some B)] 65))
  clear hL
  go_enter Try.func35, Try.ntmps35
  go_wp2_with (go_at_call 23; refine (abs_any _ _).mono ?_; rintro e w' ⟨rfl, rfl⟩)
  go_ret
  exact ⟨rfl, (Below.refl _ _).alloc (Nat.le_refl _) _⟩

set_option maxHeartbeats 2000000 in
theorem against_any (X : Nat) (c share : Int) (B : Nat) (of : ByteArray) (w : World) (hL : Looks w B of c) :
    Calls Try.prog 31 #[.agg #[.int .u64 ((X / 18446744073709551616 : Nat) : Int), .int .u64 ((X % 18446744073709551616 : Nat) : Int), .map (some B)], .int .i64 share, .string of] w fun e w' =>
      e = .returned (.int .i64 (sgn3 X (toU (absV c) * toU share))) ∧ Below w.heap.size w w' := by
  have hcmp := fun Y w => compare_any X Y w
  unfold exact2 at hcmp
  obtain ⟨h1, e1⟩ : ∃ h1, h1 = X / 18446744073709551616 := ⟨_, rfl⟩
  obtain ⟨l1, e2⟩ : ∃ l1, l1 = X % 18446744073709551616 := ⟨_, rfl⟩
  rw [← e1, ← e2] at hcmp ⊢
  clear e1 e2
  have HCMP : Hid (∀ Y w, Calls Try.prog 34 #[.agg #[.int .u64 (h1 : Int), .int .u64 (l1 : Int)], exact2 Y] w fun e w' => e = .returned (.int .i64 (sgn3 X Y)) ∧ Below w.heap.size w w') := hcmp
  have HL1 : Hid (Looks ((w.alloc (.cells #[.int .u64 (h1 : Int), .int .u64 (l1 : Int), .map (some B)] 65)).drew) B of c) := hL.carry ((Below.refl w.heap.size w).alloc (Nat.le_refl _) _).drew
  clear hcmp hL
  go_enter Try.func31, Try.ntmps31
  go_wp2_with fail
  go_region_with (first | (go_at_call 35; refine (base_any _ _ _ _ _ _ HL1.out).mono ?_; rintro e w1 ⟨rfl, b1⟩; have hc1 := bcell b1; have hz1 : w.heap.size < w1.heap.size := by have := b1.size; simp at this; omega) | (go_at_call 15; refine (shareOf_any _ _ _).mono ?_; rintro e w2 ⟨rfl, b2⟩; have hc2 := bcell b2; have hz2 : w.heap.size < w2.heap.size := by have := b2.size; omega) | (go_at_call 34; refine (HCMP.out _ _).mono ?_; rintro e w3 ⟨rfl, b3⟩))
  all_goals go_wp2
  all_goals go_ret
  all_goals exact ⟨rfl, below_chain b1 b2 b3⟩

set_option maxHeartbeats 2000000 in
theorem zzAgainst_any (X : Nat) (c share : Int) (B : Nat) (of : ByteArray) (w : World) (hL : Looks w B of c) :
    Calls Try.prog 20 #[exact2 X, .map (some B), .int .i64 share, .string of] w fun e w' => e = .returned (.int .i64 (sgn3 X (toU (absV c) * toU share))) ∧ Below w.heap.size w w' := by
  have hag := fun w hL => against_any X c share B of w hL
  unfold exact2
  obtain ⟨h1, e1⟩ : ∃ h1, h1 = X / 18446744073709551616 := ⟨_, rfl⟩
  obtain ⟨l1, e2⟩ : ∃ l1, l1 = X % 18446744073709551616 := ⟨_, rfl⟩
  rw [← e1, ← e2] at hag ⊢
  clear e1 e2
  have b0 : Below w.heap.size w (w.alloc (.cells #[.int .u64 (h1 : Int), .int .u64 (l1 : Int)] 36)) := (Below.refl w.heap.size w).alloc (Nat.le_refl _) _
  have hcall := hag _ (hL.carry b0)
  clear hag hL
  go_enter Try.func20, Try.ntmps20
  go_wp2_with fail
  refine hcall.mono ?_
  rintro e w1 ⟨rfl, b1⟩
  go_wp2
  go_ret
  exact ⟨rfl, b0.trans (b1.mono (by simp))⟩
end Go.Proofs.Qxb6608540a
