/-
  The walk of FnStridesMixedRadix.
-/
import Derived.Test.Qxb6608540aConcatNil
import Derived.Test.Qxb6608540aRadix
import Derived.OpenShut
namespace Go.Proofs.Qxb6608540a
open Go.RowKit
set_option linter.unusedVariables false

set_option maxHeartbeats 2000000 in
set_option maxRecDepth 10000 in
theorem mixed_out (a a1 : Option Addr) (len cap len1 cap1 : Nat) (w : World) (hn : len ≤ maxLen) (hn1 : len1 ≤ maxLen) (h : ¬ (len + len1 ≤ 131072 ∧ len1 = len)) :
    Calls Try.prog 4 #[.slice a len cap, .slice a1 len1 cap1] w fun e w' => e = .returned (.bool true) ∧ Below w.heap.size w w' := by
  unfold maxLen at hn hn1
  by_cases h1 : len + len1 ≤ 131072
  · have h2 : ((len1 : Int) != (len : Int)) = true := by simp; omega
    clear h
    go_enter Try.func4, Try.ntmps4
    go_wp2
    go_ret
    exact ⟨rfl, Below.refl _ _⟩
  · clear h
    go_enter Try.func4, Try.ntmps4
    go_wp2
    all_goals go_ret
    all_goals exact ⟨rfl, Below.refl _ _⟩

theorem ok_snoc {xs cs : List Int} {k : Nat} {y c : Int} (h : ∀ j, j < k → 1 ≤ xs.getD j 0 ∧ 0 ≤ cs.getD j 0 ∧ cs.getD j 0 < xs.getD j 0) (hy : y = xs.getD k 0) (hc : c = cs.getD k 0) (h1 : 1 ≤ y) (h2 : 0 ≤ c) (h3 : c < y) :
    ∀ j, j < k + 1 → 1 ≤ xs.getD j 0 ∧ 0 ≤ cs.getD j 0 ∧ cs.getD j 0 < xs.getD j 0 := by
  intro j hj
  by_cases e : j = k
  · rw [e, ← hy, ← hc]; exact ⟨h1, h2, h3⟩
  · exact h j (by omega)

set_option maxHeartbeats 8000000 in
set_option maxRecDepth 10000 in
theorem mixed_some (x : Addr) (a1 : Option Addr) (len cap cap1 : Nat) (xs cs : List Int) (w : World) (hlen : Hid (xs.length = len)) (hlen1 : Hid (cs.length = len)) (hn : len + len ≤ 131072) (h0 : 0 < len) (hat : Hid (IntAt w (some x) xs)) (hat1 : Hid (IntAt w a1 cs))
    (hxb : Hid (∀ j, -9223372036854775808 ≤ xs.getD j 0 ∧ xs.getD j 0 ≤ 9223372036854775807)) (hcb : Hid (∀ j, -9223372036854775808 ≤ cs.getD j 0 ∧ cs.getD j 0 ≤ 9223372036854775807)) :
    Calls Try.prog 4 #[.slice (some x) len cap, .slice a1 len cap1] w fun e w' => e = .returned (.bool true) ∧ Below w.heap.size w w' := by
  obtain ⟨i0, hi, hz0, hz1, hz2⟩ := info_parts Try.info3
  have hmk := run_make (P := Try.prog) w 22 3 i0 (.int .i64 0) Try.underlying22 hi hz0 .i64 .i64 len len (by omega) (by omega) (by rw [hz2]; omega) (by omega)
  simp only [Int.toNat_natCast, hz1, Nat.mul_one] at hmk
  have hms := size_madeCells (Value.int .i64 0).cells len
  generalize madeCells (Value.int .i64 0).cells len = c0 at hmk hms
  obtain ⟨W2, hcopy, hat2, b2, hg2⟩ := copy_fresh x len cap xs c0 w hlen.out hms hat.out
  clear hi hz0 hz1 hz2 hms
  have HA2 : Hid (IntAt W2 (some ⟨w.heap.size, 0, none⟩) xs) := hat2
  have HC2 : Hid (IntAt W2 a1 cs) := hat1.out.carry b2
  clear hat2
  have hneq := fun (w : World) => run_neq_slice_nil_any (P := Try.prog) w 22 3 (some x) len cap 0 0 Try.underlying22
  go_enter Try.func4, Try.ntmps4
  go_wp2_with (go_at_call 11; go_in)
  clear hcopy hmk hneq
  go_loopw [6, 7] (fun v6 v7 wr => ∃ (k : Nat) (P : Int), k ≤ len ∧ v7 = .int .i64 k ∧ v6 = .int .i64 P ∧ P = prodI (xs.take k) ∧ 1 ≤ P ∧ P ≤ 1073741824 ∧ (∀ j, j < k → 1 ≤ xs.getD j 0 ∧ 0 ≤ cs.getD j 0 ∧ cs.getD j 0 < xs.getD j 0) ∧ Below W2.heap.size W2 wr) (fun _ v7 _ => len - (intOf v7).toNat)
  case atStart => exact ⟨0, 1, Nat.zero_le _, rfl, rfl, rfl, by omega, by omega, fun j hj => absurd hj (Nat.not_lt_zero _), Below.refl _ _⟩
  case round =>
    obtain ⟨k, P, hk, rfl, rfl, hP, hP1, hP2, hall, hbr⟩ := hrel
    have HP : Hid (P = prodI (xs.take k)) := hP
    have HALL : Hid (∀ j, j < k → 1 ≤ xs.getD j 0 ∧ 0 ≤ cs.getD j 0 ∧ cs.getD j 0 < xs.getD j 0) := hall
    clear hP hall
    have hbw := b2.trans (hbr.mono b2.size)
    by_cases hlt : k < len
    · obtain ⟨bc, oc, rfl, hbc, hcc⟩ := HC2.out (by rw [hlen1.out]; omega)
      obtain ⟨y, hy⟩ : ∃ y, y = xs.getD k 0 := ⟨_, rfl⟩
      obtain ⟨c, hc⟩ : ∃ c, c = cs.getD k 0 := ⟨_, rfl⟩
      have hcx := intAt_cell HA2.out k (by rw [hlen.out]; exact hlt)
      rw [Nat.zero_add, ← hy] at hcx
      have hcx' := (hbr.cell (p := ⟨w.heap.size, k, none⟩) hg2).trans hcx
      have hcy := hcc k (by rw [hlen1.out]; exact hlt)
      rw [← hc] at hcy
      have hcy' := (hbr.cell (p := ⟨bc, oc + k, none⟩) hbc).trans hcy
      have hyb := hxb.out k
      have hcbb := hcb.out k
      rw [← hy] at hyb
      rw [← hc] at hcbb
      have HY : Hid (y = xs.getD k 0) := hy
      have HCC : Hid (c = cs.getD k 0) := hc
      have hkL : (k : Int) < (len : Int) := by omega
      clear hy hc hcx hcy hcc
      by_cases hy1 : y < 1
      · have hd : decide (y < 1) = true := by simpa using hy1
        go_wp2
        go_quiet (fail)
        go_wp2
        go_ret
        exact ⟨rfl, below_drewN hbw _⟩
      · have hd : decide (y < 1) = false := by simpa using hy1
        by_cases hy2 : y ≤ 1073741824 / P
        · have hm1 : P * y ≤ 1073741824 := div_test hP1 hy2
          have hm0 : 1 ≤ P * y := by
            have := Int.mul_le_mul hP1 (show (1 : Int) ≤ y by omega) (by omega) (by omega)
            omega
          by_cases hc1 : c < 0
          · have hd2 : decide (c < 0) = true := by simpa using hc1
            go_wp2
            go_quiet (fail)
            go_wp2
            go_quiet (fail)
            go_wp2
            go_ret
            exact ⟨rfl, below_drewN (below_drewN hbw _) _⟩
          · have hd2 : decide (c < 0) = false := by simpa using hc1
            by_cases hc2 : c < y
            · go_wp2
              go_quiet (fail)
              go_wp2
              go_quiet (fail)
              go_wp2
              go_roundw
              case rel => exact ⟨k + 1, P * y, by omega, by go_num, by go_num, by rw [prodI_take_succ xs k (by rw [hlen.out]; exact hlt), ← HP.out, ← HY.out], hm0, hm1, ok_snoc HALL.out HY.out HCC.out (by omega) (by omega) hc2, below_drewN hbr _⟩
              case measure => simp [intOf]; omega
            · go_wp2
              go_quiet (fail)
              go_wp2
              go_quiet (fail)
              go_wp2
              go_ret
              exact ⟨rfl, below_drewN (below_drewN hbw _) _⟩
        · go_wp2
          go_quiet (fail)
          go_wp2
          go_ret
          exact ⟨rfl, below_drewN hbw _⟩
    · have hkn : len = k := by omega
      subst hkn
      have hok : okL xs cs := ⟨by rw [hlen.out, hlen1.out], fun j hj => HALL.out j (by rw [← hlen.out]; exact hj)⟩
      have HOK : Hid (okL xs cs) := hok
      have HPX : Hid (P = prodI xs) := by
        have := HP.out
        rw [List.take_of_length_le (by rw [hlen.out]; exact Nat.le_refl _)] at this
        exact this
      have HA6 : Hid (IntAt wr (some ⟨w.heap.size, 0, none⟩) xs) := HA2.out.carry hbr
      have HC6 : Hid (IntAt wr a1 cs) := HC2.out.carry hbr
      have hgr : w.heap.size < wr.heap.size := Nat.lt_of_lt_of_le hg2 hbr.size
      clear hok HP HALL HA2 HC2 hbr
      go_wp2_with fail
      refine (strides_any (some ⟨w.heap.size, 0, none⟩) len len xs _ hlen.out (by omega) HA6.out).mono ?_
      rintro e w7 ⟨g7, rfl, hs7, b7⟩
      have HA7 : Hid (IntAt w7 (some ⟨w.heap.size, 0, none⟩) xs) := HA6.out.carry b7
      have HC7 : Hid (IntAt w7 a1 cs) := HC6.out.carry b7
      have hgr7 : w.heap.size < w7.heap.size := Nat.lt_of_lt_of_le hgr b7.size
      have hbw7 := hbw.trans (b7.mono hbw.size)
      have HS7 : Hid (∀ i, i < len → w7.cell? ⟨g7, i, none⟩ = some (.int .i64 (prodI (xs.drop (i + 1))))) := by
        intro i hi
        rw [hs7.2 i (by rw [hlen.out]; exact hi), prodW_eq xs (fun j hj => (HOK.out.2 j hj).1) (by rw [← HPX.out]; exact hP2)]
      have hg7 : g7 < w7.heap.size := hs7.1
      clear hs7 b7 HA6 HC6 hgr hbw
      have z1 : w7.cell? ⟨g7, len - 1, none⟩ = some (.int .i64 1) := by
        rw [HS7.out (len - 1) (by omega), List.drop_of_length_le (by rw [hlen.out]; omega)]
        rfl
      go_wp2
      go_loopw [10, 11] (fun v10 v11 wr => ∃ k : Nat, k ≤ len ∧ v11 = .int .i64 k ∧ v10 = .int .i64 (cellTo xs cs k) ∧ Below w7.heap.size w7 wr) (fun _ v11 _ => len - (intOf v11).toNat)
      case atStart => exact ⟨0, Nat.zero_le _, rfl, by rw [cellTo_zero], Below.refl _ _⟩
      case round =>
        obtain ⟨k, hk2, rfl, rfl, hbr⟩ := hrel
        by_cases hlt2 : k < len
        · obtain ⟨bc, oc, rfl, hbc, hcc⟩ := HC7.out (by rw [hlen1.out]; omega)
          obtain ⟨S, hS⟩ : ∃ S, S = prodI (xs.drop (k + 1)) := ⟨_, rfl⟩
          obtain ⟨c, hc⟩ : ∃ c, c = cs.getD k 0 := ⟨_, rfl⟩
          obtain ⟨C, hC⟩ : ∃ C, C = cellTo xs cs k := ⟨_, rfl⟩
          have e1 := cellTo_succ xs cs HOK.out k (by rw [hlen.out]; exact hlt2)
          have e2 := cellTo_le xs cs HOK.out (k + 1)
          have e3 := cellTo_nonneg xs cs HOK.out k (by rw [hlen.out]; exact hk2)
          have e4 := prodI_drop_le xs (fun j hj => (HOK.out.2 j hj).1) (k + 1)
          have e5 := (HOK.out.2 k (by rw [hlen.out]; exact hlt2)).2.1
          rw [← HPX.out] at e2 e4
          rw [← hC, ← hS, ← hc] at e1
          rw [← hS] at e4
          rw [← hC] at e3
          rw [← hc] at e5
          have e6 : 0 ≤ c * S := Int.mul_nonneg e5 (by omega)
          rw [e1] at e2
          have hcs := HS7.out k hlt2
          rw [← hS] at hcs
          have hcs' := (hbr.cell (p := ⟨g7, k, none⟩) hg7).trans hcs
          have hcy := hcc k (by rw [hlen1.out]; exact hlt2)
          rw [← hc] at hcy
          have hcy' := (hbr.cell (p := ⟨bc, oc + k, none⟩) hbc).trans hcy
          have hkL : (k : Int) < (len : Int) := by omega
          have HE1 : Hid (cellTo xs cs (k + 1) = C + c * S) := e1
          have f1 : 1 ≤ S := e4.1
          have f2 : S ≤ P := e4.2
          rw [← hC]
          clear hS hc hC e1 e4 hcs hcy hcc
          go_wp2
          go_quiet (fail)
          go_wp2
          go_roundw
          case rel => exact ⟨k + 1, by omega, by go_num, by rw [HE1.out], below_drewN hbr _⟩
          case measure => simp [intOf]; omega
        · have hkn : len = k := by omega
          subst hkn
          obtain ⟨Z, hZ⟩ : ∃ Z, Z = cellTo xs cs len := ⟨_, rfl⟩
          have HZ : Hid (Z = cellL xs cs) := by
            have := cellTo_all xs cs
            rw [hlen.out] at this
            rw [hZ, this]
            rfl
          have hzb := cellL_bounds xs cs HOK.out
          rw [← HPX.out, ← HZ.out] at hzb
          obtain ⟨hzb0, hzb1⟩ := hzb
          rw [← hZ]
          have hbw8 := hbw7.trans (hbr.mono hbw7.size)
          clear hZ
          go_wp2
          go_loopw [12] (fun v12 wq => ∃ k : Nat, k ≤ len ∧ v12 = .int .i64 k ∧ Below w7.heap.size w7 wq) (fun v12 _ => len - (intOf v12).toNat)
          case atStart => exact ⟨0, Nat.zero_le _, rfl, hbr⟩
          case round =>
            obtain ⟨k, hk3, rfl, hbq⟩ := hrel
            have hbwq := hbw7.trans (hbq.mono hbw7.size)
            by_cases hlt3 : k < len
            · obtain ⟨bc, oc, rfl, hbc, hcc⟩ := HC7.out (by rw [hlen1.out]; omega)
              obtain ⟨S, hS⟩ : ∃ S, S = prodI (xs.drop (k + 1)) := ⟨_, rfl⟩
              obtain ⟨c, hc⟩ : ∃ c, c = cs.getD k 0 := ⟨_, rfl⟩
              obtain ⟨y, hy⟩ : ∃ y, y = xs.getD k 0 := ⟨_, rfl⟩
              have e4 := prodI_drop_le xs (fun j hj => (HOK.out.2 j hj).1) (k + 1)
              have e5 := HOK.out.2 k (by rw [hlen.out]; exact hlt3)
              have e7 := read_back xs cs HOK.out k (by rw [hlen.out]; exact hlt3)
              rw [← HZ.out, ← hS, ← hc, ← hy] at e7
              rw [← HPX.out, ← hS] at e4
              rw [← hc, ← hy] at e5
              obtain ⟨f1, f2⟩ := e4
              obtain ⟨f3, f4, f5⟩ := e5
              have hcs := HS7.out k hlt3
              rw [← hS] at hcs
              have hcs' := (hbq.cell (p := ⟨g7, k, none⟩) hg7).trans hcs
              have hcy := hcc k (by rw [hlen1.out]; exact hlt3)
              rw [← hc] at hcy
              have hcy' := (hbq.cell (p := ⟨bc, oc + k, none⟩) hbc).trans hcy
              have hcx := intAt_cell HA7.out k (by rw [hlen.out]; exact hlt3)
              rw [Nat.zero_add, ← hy] at hcx
              have hcx' := (hbq.cell (p := ⟨w.heap.size, k, none⟩) hgr7).trans hcx
              have hkL : (k : Int) < (len : Int) := by omega
              have e8 : ((Z / S).tmod y != c) = false := by
                rw [Int.tmod_eq_emod_of_nonneg (Int.ediv_nonneg hzb0 (by omega)), e7]
                simp
              clear hS hc hy e7 hcs hcy hcc hcx
              go_wp2
              go_quiet (fail)
              go_wp2
              go_roundw
              case rel => exact ⟨k + 1, by omega, by go_num, below_drewN hbq _⟩
              case measure => simp [intOf]; omega
            · go_wp2
              go_ret
              exact ⟨rfl, hbwq⟩

/-- No element: whatever the addresses. -/
theorem copy_none (x : Addr) (cap : Nat) (c0 : Array Value) (w : World) (ty : TypeId) :
    (Builtin.copy_ #[22, 22] ty #[.slice (some ⟨w.heap.size, 0, none⟩) 0 0, .slice (some x) 0 cap]).run Try.prog (w.alloc (.cells c0 3)) = .ok (goInt 0) (w.alloc (.cells c0 3)) := by
  obtain ⟨i0, hi, hz0, hz1, hz2⟩ := info_parts Try.info3
  have hsz : (Try.prog.info? 3).map (·.size) = some 1 := by rw [hi]; simp [hz1]
  exact run_copy_none (P := Try.prog) _ 22 22 ty 3 _ _ 0 0 0 cap Try.underlying22 hsz rfl

theorem strides_zero (a : Option Addr) (cap : Nat) (w : World) :
    Calls Try.prog 10 #[.slice a 0 cap] w fun e w' => ∃ g, e = .returned (.slice (some ⟨g, 0, none⟩) 0 0) ∧ Below w.heap.size w w' := by
  refine (strides_any a 0 cap [] w rfl (by omega) (fun h => absurd h (Nat.lt_irrefl _))).mono ?_
  rintro e w' ⟨g, rfl, _, hb⟩
  exact ⟨g, rfl, hb⟩

set_option maxHeartbeats 4000000 in
theorem mixed_zero (a a1 : Option Addr) (cap cap1 : Nat) (w : World) :
    Calls Try.prog 4 #[.slice a 0 cap, .slice a1 0 cap1] w fun e w' => e = .returned (.bool true) ∧ Below w.heap.size w w' := by
  have hneq := fun (w : World) => run_neq_slice_nil_any (P := Try.prog) w 22 3 a 0 cap 0 0 Try.underlying22
  cases a with
  | none =>
    go_enter Try.func4, Try.ntmps4
    go_wp2_with (go_at_call 11; go_in)
    refine wp_loop_rounds 1 ?_
    rw [rounds_succ]
    go_wp2_with fail
    refine (strides_zero _ _ _).mono ?_
    rintro e w3 ⟨g3, rfl, b3⟩
    go_wp2
    refine wp_loop_rounds 1 ?_
    rw [rounds_succ]
    go_wp2
    refine wp_loop_rounds 1 ?_
    rw [rounds_succ]
    go_wp2
    go_ret
    exact ⟨rfl, b3⟩
  | some x =>
    obtain ⟨i0, hi, hz0, hz1, hz2⟩ := info_parts Try.info3
    have hmk := run_make (P := Try.prog) w 22 3 i0 (.int .i64 0) Try.underlying22 hi hz0 .i64 .i64 0 0 (by omega) (by omega) (by rw [hz2]; omega) (by omega)
    simp only [Int.toNat_zero, Nat.zero_mul] at hmk
    generalize madeCells (Value.int .i64 0).cells 0 = c0 at hmk
    clear hi hz0 hz1 hz2
    have hcopy := copy_none x cap c0 w
    go_enter Try.func4, Try.ntmps4
    go_wp2_with (go_at_call 11; go_in)
    refine wp_loop_rounds 1 ?_
    rw [rounds_succ]
    go_wp2_with fail
    refine (strides_zero _ _ _).mono ?_
    rintro e w3 ⟨g3, rfl, b3⟩
    go_wp2
    refine wp_loop_rounds 1 ?_
    rw [rounds_succ]
    go_wp2
    refine wp_loop_rounds 1 ?_
    rw [rounds_succ]
    go_wp2
    go_ret
    exact ⟨rfl, ((Below.refl _ _).alloc (Nat.le_refl _) _).trans (b3.mono (by simp))⟩

theorem take_bounds {zs : List Int} {n : Nat} (h : ∀ z ∈ zs, (Lit.int .i64 z).wf = true) : ∀ j, -9223372036854775808 ≤ (zs.take n).getD j 0 ∧ (zs.take n).getD j 0 ≤ 9223372036854775807 := by
  intro j
  have := range_i64 (zs := zs.take n) (fun z hz => h z (List.mem_of_mem_take hz)) j
  simpa [List.getD] using this
end Go.Proofs.Qxb6608540a
