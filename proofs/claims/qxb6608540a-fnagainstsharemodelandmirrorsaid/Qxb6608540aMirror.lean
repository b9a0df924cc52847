/-
  The walk of FnAgainstShareModelAndMirror.
-/
import Derived.Test.Qxb6608540aFit
namespace Go.Proofs.Qxb6608540a
open Go.RowKit Go.Lib Go.Maps
set_option linter.unusedVariables false

/-- A product written out as its two halves. -/
def Halves (X h l : Nat) : Prop := exact2 X = .agg #[.int .u64 (h : Int), .int .u64 (l : Int)]

theorem share_halves (p base : Int) (X : Nat) (hX : X = toU base * toU p) (w : World) :
    Calls Try.prog 15 #[.int .i64 p, .int .i64 base] w fun e w' => ∃ h l : Nat, e = .returned (.agg #[.int .u64 (h : Int), .int .u64 (l : Int)]) ∧ Halves X h l ∧ Below w.heap.size w w' := by
  subst hX
  refine (shareOf_any p base w).mono ?_
  rintro e w' ⟨rfl, hb⟩
  exact ⟨_, _, rfl, rfl, hb⟩

theorem against_halves (X Y h l : Nat) (c share : Int) (B : Nat) (of : ByteArray) (w : World) (hh : Halves X h l) (hL : Looks w B of c) (hY : Y = toU (absV c) * toU share) :
    Calls Try.prog 20 #[.agg #[.int .u64 (h : Int), .int .u64 (l : Int)], .map (some B), .int .i64 share, .string of] w fun e w' => e = .returned (.int .i64 (sgn3 X Y)) ∧ Below w.heap.size w w' := by
  subst hY
  have := zzAgainst_any X c share B of w hL
  rw [hh] at this
  exact this

theorem sgn3_range (x y : Nat) : -1 ≤ sgn3 x y ∧ sgn3 x y ≤ 1 := by
  unfold sgn3
  split
  · omega
  · split <;> omega

theorem wf_bounds {v : Int} (h : (Lit.int .i64 v).wf = true) : -9223372036854775808 ≤ v ∧ v ≤ 9223372036854775807 := by
  simp [Lit.wf, IntKind.min, IntKind.max, IntKind.signed, IntKind.bits] at h
  omega

theorem lookTo_wf (ks : List ByteArray) (vs : List Int) (of : ByteArray) (h : ∀ j, (Lit.int .i64 (vs.getD j 0)).wf = true) : ∀ k, -9223372036854775808 ≤ lookTo ks vs of k ∧ lookTo ks vs of k ≤ 9223372036854775807
  | 0 => by simp [lookTo]
  | k + 1 => by
    rw [lookTo]
    split
    · exact wf_bounds (h k)
    · exact lookTo_wf ks vs of h k

set_option maxHeartbeats 8000000 in
set_option maxRecDepth 10000 in
theorem mirror_walk (P S : Int) (Bs : Int) (ak av : Option Addr) (nk nv ck cv : Nat) (of : ByteArray) (ks : List ByteArray) (vs : List Int) (w : World) (hnk : nk ≤ maxLen) (hnv : nv ≤ maxLen) (hof : of.size ≤ maxLen)
    (hks : Hid (ks.length = nk)) (hvs : Hid (vs.length = nv)) (hkz : Hid (∀ s ∈ ks, s.size ≤ maxLen)) (hvz : Hid (∀ j, (Lit.int .i64 (vs.getD j 0)).wf = true)) (hBs : Bs ≤ 9223372036854775807) (hk : Hid (StrAt w ak ks)) (hv : Hid (IntAt w av vs)) :
    Calls Try.prog 6 #[.int .i64 P, .int .i64 Bs, .slice ak nk ck, .slice av nv cv, .int .i64 S, .string of] w fun e w' => e = .returned (.bool true) ∧ Below w.heap.size w w' := by
  have hf := fits_any P Bs S ak av nk nv ck cv of ks w hnk hnv hof hks hkz hk
  have HOF : Hid (of.size ≤ maxLen) := hof
  clear hof
  go_enter Try.func6, Try.ntmps6
  go_wp2_with fail
  refine hf.mono ?_
  rintro e w' ⟨⟨ok, rfl, hok⟩, rfl⟩
  clear hf hnk hnv
  cases ok with
  | false =>
    clear hok
    go_wp2
    go_ret
    exact ⟨rfl, Below.refl _ _⟩
  | true =>
  obtain ⟨q1, q2, q3⟩ := hok rfl
  clear hok
  go_wp2_with fail
  refine (stringsFit_any ak nk ck ks _ q1 hks hk).mono ?_
  rintro e w' ⟨⟨T, rfl, hT0, hT1⟩, rfl⟩
  by_cases hA : 0 ≤ T ∧ (nv : Int) ≤ T / 8 ∧ (of.size : Int) ≤ T - 8 * nv ∧ 0 ≤ Bs
  case neg =>
    go_wp2
    all_goals go_ret
    all_goals exact ⟨rfl, Below.refl _ _⟩
  obtain ⟨a1, a2, a3, a4⟩ := hA
  obtain ⟨bn, rfl⟩ : ∃ bn : Nat, Bs = bn := ⟨Bs.toNat, by omega⟩
  obtain ⟨n, hn⟩ : ∃ n, n = min nk nv := ⟨_, rfl⟩
  have HN : Hid (n = min nk nv) := hn
  have hnn : n ≤ 1048576 := by omega
  clear hn
  go_wp2_with fail
  refine (figureMap_any ak av nk nv ck cv n ks vs _ HN hnn hks hvs hkz hvz hk hv).mono ?_
  rintro e w1 ⟨rfl, ⟨D, hown, hD⟩, b1⟩
  obtain ⟨fv, hfv⟩ : ∃ fv, fv = lookTo ks vs of n := ⟨_, rfl⟩
  have HFV : Hid (fv = lookTo ks vs of n) := hfv
  have hfb := lookTo_wf ks vs of hvz.out n
  rw [← hfv] at hfb
  obtain ⟨hfb1, hfb2⟩ := hfb
  have HL1 : Hid (Looks w1 w.heap.size of fv) := looks_of hown HOF.out (by rw [hD of, ← hfv])
  clear hown hD hfv
  obtain ⟨X, hX⟩ : ∃ X, X = toU (bn : Int) * toU P := ⟨_, rfl⟩
  obtain ⟨Y, hY⟩ : ∃ Y, Y = toU (absV fv) * toU S := ⟨_, rfl⟩
  have HX : Hid (X = toU (bn : Int) * toU P) := hX
  have HY : Hid (Y = toU (absV fv) * toU S) := hY
  clear hX hY
  go_wp2_with fail
  refine (share_halves P bn X HX.out _).mono ?_
  rintro e w2 ⟨h, l, rfl, hh, b2⟩
  have HH : Hid (Halves X h l) := hh
  have hc2 : w.heap.size < w2.heap.size + 1 := by have := b1.size; have := b2.size; omega
  clear hh
  obtain ⟨R, hR⟩ : ∃ R, R = sgn3 X Y := ⟨_, rfl⟩
  have HR : Hid (R = sgn3 X Y) := hR
  have hRb := sgn3_range X Y
  rw [← hR] at hRb
  obtain ⟨hRb1, hRb2⟩ := hRb
  have b2' : Below w1.heap.size w1 (w2.alloc (Obj.cells #[Value.int IntKind.u64 (h : Int), Value.int IntKind.u64 (l : Int)] 36)) := b2.alloc b2.size _
  have hag := against_halves X Y h l fv S w.heap.size of _ HH.out (HL1.out.carry b2') HY.out
  rw [← hR] at hag
  clear hR
  go_wp2_with fail
  refine hag.mono ?_
  rintro e w3 ⟨rfl, b3⟩
  clear hag
  have bw3 : Below w.heap.size w w3 := (b1.trans (b2'.mono b1.size)).trans (b3.mono (by have := b1.size; have := b2'.size; omega))
  have HK3 : Hid (StrAt w3 ak ks) := hk.out.carry bw3
  have HV3 : Hid (IntAt w3 av vs) := hv.out.carry bw3
  clear b1 b2 b2' b3 HL1 HH hc2
  have hlk := lookup_any ak av nk nv ck cv n of ks vs w3 HN hnn hks hvs HK3 HV3
  rw [← HFV.out] at hlk
  go_wp2_with fail
  refine hlk.mono ?_
  rintro e w' ⟨rfl, rfl⟩
  clear hlk
  have hp := toU_wrap P
  have hs := toU_wrap S
  have hcp := cmpProducts_any (toU P) bn (toU S) (uabs fv) (toU_lt _) (by omega) (toU_lt _) (by unfold uabs; omega) w3
  have hbn : toU (bn : Int) = bn := by have := toU_nonneg (v := (bn : Int)) (by omega) (by omega); omega
  have hXX : X = toU P * bn := by rw [HX.out, hbn, Nat.mul_comm]
  have hYY : Y = toU S * uabs fv := by rw [HY.out, toU_absV fv hfb1 hfb2, Nat.mul_comm]
  rw [← hXX, ← hYY, ← HR.out] at hcp
  have HXX : Hid (toU (bn : Int) = bn) := hbn
  clear hbn hXX hYY
  have hmm := @run_makeMap Try.prog
  obtain ⟨w4, hrun, hown4, hg4⟩ := (World.ownsMap_made w3 Try.prog 31 (plainElem (H := Unit) Try.prog 32)).update law31 Try.underlying33 (show 0 < maxLen by unfold maxLen; omega) (Go.WideMaps.keyOf_string_mk Try.underlying31 HOF.out) (plainElem_int Try.underlying32 (show (Lit.int .i64 (bn : Int)).wf = true from WalkArith.wf_i64 (by omega)))
  have HL4 : Hid (Looks w4 w3.heap.size of (bn : Int)) := looks_of hown4 HOF.out (atKey_put_same (k := .string of.data.toList) isMap_empty trivial _ _)
  have bw4 : Below w3.heap.size w3 w4 := ((Below.refl w3.heap.size w3).alloc (Nat.le_refl _) (.map #[] 0)).grown hg4 (by simp) (fun j hj => by injection hj with hj; omega)
  clear hown4 hg4
  go_wp2_with (first | (go_at_call 16; refine (uabs_any fv hfb1 hfb2 _).mono ?_; rintro e w' ⟨rfl, rfl⟩) | (go_at_call 22; refine hcp.mono ?_; rintro e w' ⟨rfl, rfl⟩) | (go_at_call 23; refine (abs_any fv _).mono ?_; rintro e w' ⟨rfl, rfl⟩))
  clear hmm hrun hcp
  refine (share_halves S (absV fv) Y HY.out _).mono ?_
  rintro e w5 ⟨h', l', rfl, hh, b5⟩
  have b5' : Below w4.heap.size w4 (w5.alloc (Obj.cells #[Value.int IntKind.u64 (h' : Int), Value.int IntKind.u64 (l' : Int)] 36)) := b5.alloc b5.size _
  have hag := against_halves Y X h' l' (bn : Int) P w3.heap.size of _ hh (HL4.out.carry b5') (by rw [absV_nonneg (by omega)]; exact HX.out)
  rw [sgn3_neg X Y, ← HR.out] at hag
  have HH5 : Hid (Halves Y h' l') := hh
  clear hh
  go_wp2_with fail
  refine hag.mono ?_
  rintro e w6 ⟨rfl, b6⟩
  clear hag
  go_wp2
  go_ret
  have c4 := bw3.trans (bw4.mono bw3.size)
  have c5 := c4.trans (b5'.mono c4.size)
  exact ⟨rfl, c5.trans (b6.mono c5.size)⟩
end Go.Proofs.Qxb6608540a
