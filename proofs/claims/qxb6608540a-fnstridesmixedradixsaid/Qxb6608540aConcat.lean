/-
  The walk of FnStridesConcat.
-/
import Derived.Test.Qxb6608540aStrides
import Derived.Deep.QuietTactic
import Derived.BigQuiet
namespace Go.Proofs.Qxb6608540a
open Go.RowKit
set_option linter.unusedVariables false

set_option maxHeartbeats 2000000 in
theorem concat_out (a : Option Addr) (len cap : Nat) (i : Int) (w : World) (hn : len ≤ maxLen) (h : 131072 < len ∨ i < 0 ∨ (len : Int) < i) :
    Calls Try.prog 3 #[.slice a len cap, .int .i64 i] w fun e w' => e = .returned (.bool true) ∧ Below w.heap.size w w' := by
  unfold maxLen at hn
  by_cases h1 : len ≤ 131072
  · by_cases h2 : i < 0
    · go_enter Try.func3, Try.ntmps3
      go_wp2
      go_ret
      exact ⟨rfl, Below.refl _ _⟩
    · have h3 : (len : Int) < i := by omega
      go_enter Try.func3, Try.ntmps3
      go_wp2
      go_ret
      exact ⟨rfl, Below.refl _ _⟩
  · go_enter Try.func3, Try.ntmps3
    go_wp2
    all_goals go_ret
    all_goals exact ⟨rfl, Below.refl _ _⟩

theorem row_ints {w : World} {g : Nat} {xs : List Int} (h : w.heap[g]? = some (.cells (xs.map (Value.int .i64)).toArray 3 (0, 0))) : IntAt w (some ⟨g, 0, none⟩) xs := by
  intro h0
  refine ⟨g, 0, rfl, (Array.getElem?_eq_some_iff.1 h).1, fun j hj => ?_⟩
  rw [Nat.zero_add, cell_of_row w g j _ 3 (0, 0) h]
  simp [List.getD, List.getElem?_eq_getElem hj]

/-- 'zzc := make([]int, len(along)); copy(zzc, along)': what the copy leaves. -/
theorem copy_fresh (x : Addr) (len cap : Nat) (xs : List Int) (c0 : Array Value) (w : World) (hlen : xs.length = len) (hc0 : c0.size = len) (hat : IntAt w (some x) xs) :
    ∃ W2, (∀ ty, (Builtin.copy_ #[22, 22] ty #[.slice (some ⟨w.heap.size, 0, none⟩) len len, .slice (some x) len cap]).run Try.prog (w.alloc (.cells c0 3)) = .ok (goInt len) W2) ∧ IntAt W2 (some ⟨w.heap.size, 0, none⟩) xs ∧ Below w.heap.size w W2 ∧ w.heap.size < W2.heap.size := by
  obtain ⟨i0, hi, hz0, hz1, hz2⟩ := info_parts Try.info3
  have hsz : (Try.prog.info? 3).map (·.size) = some 1 := by rw [hi]; simp [hz1]
  by_cases h0 : 0 < len
  · obtain ⟨b, off, hx, hb, hc⟩ := hat (by omega)
    injection hx with hx
    subst hx
    have hcl : (xs.map (Value.int .i64)).length = Nat.min len len := by simp [hlen]
    have hcell : ∀ j v, (xs.map (Value.int .i64))[j]? = some v → (w.alloc (.cells c0 3)).cell? ((⟨b, off, none⟩ : Addr).add j) = some v := by
      intro j v hv
      rw [Go.WideShapes.add_plain, World.cell?_alloc_lt _ _ _ hb]
      have hj : j < xs.length := by
        by_cases hj : j < xs.length
        · exact hj
        · rw [List.getElem?_eq_none (by simpa using hj)] at hv; cases hv
      rw [hc j hj]
      simp [List.getElem?_eq_getElem hj] at hv
      rw [← hv]
      simp [List.getD, List.getElem?_eq_getElem hj]
    have hrun := fun ty => run_copy_row (P := Try.prog) (w.alloc (.cells c0 3)) 22 22 ty 3 w.heap.size 0 len len ⟨b, off, none⟩ len cap c0 3 (xs.map (Value.int .i64)) Try.underlying22 hsz (heap_alloc_new w _) hcl hcell (by simp; omega) (by
      intro v hv
      simp only [List.mem_map] at hv
      obtain ⟨n, _, rfl⟩ := hv
      rfl)
    have e : (c0.toList.take 0 ++ xs.map (Value.int .i64) ++ c0.toList.drop (0 + (xs.map (Value.int .i64)).length)).toArray = (xs.map (Value.int .i64)).toArray := by
      rw [List.drop_of_length_le (by simp; omega)]; simp
    rw [e] at hrun
    simp only [List.length_map, hlen] at hrun
    refine ⟨_, hrun, ?_, below_setRow ((Below.refl _ _).alloc (Nat.le_refl _) _) (Nat.le_refl _) _, by simp⟩
    exact row_ints (setRow_heap _ _ _ _ 3 (0, 0) (heap_alloc_new w _))
  · have hl0 : len = 0 := by omega
    subst hl0
    refine ⟨w.alloc (.cells c0 3), fun ty => run_copy_none (P := Try.prog) _ 22 22 ty 3 _ _ 0 0 0 cap Try.underlying22 hsz rfl, fun h => by omega, (Below.refl _ _).alloc (Nat.le_refl _) _, by simp⟩

theorem intAt_take {w : World} {a : Option Addr} {xs : List Int} {n : Nat} (h : IntAt w a xs) : IntAt w a (xs.take n) := by
  intro h0
  have hl : (xs.take n).length = min n xs.length := List.length_take
  obtain ⟨b, off, rfl, hb, hc⟩ := h (by omega)
  refine ⟨b, off, rfl, hb, fun j hj => ?_⟩
  rw [hc j (by omega)]
  simp [List.getD, show j < n by omega]

theorem intAt_drop {w : World} {b off : Nat} {xs : List Int} {n : Nat} (h : IntAt w (some ⟨b, off, none⟩) xs) : IntAt w (some ⟨b, off + n, none⟩) (xs.drop n) := by
  intro h0
  have hl : (xs.drop n).length = xs.length - n := List.length_drop
  obtain ⟨b', off', hx, hb, hc⟩ := h (by omega)
  simp only [Option.some.injEq, Addr.mk.injEq, and_true] at hx
  obtain ⟨rfl, rfl⟩ := hx
  refine ⟨b, off + n, rfl, hb, fun j hj => ?_⟩
  rw [Nat.add_assoc, hc (n + j) (by omega)]
  simp [List.getD]

/-- A cell of a row, by its number. -/
theorem intAt_cell {w : World} {b off : Nat} {xs : List Int} (h : IntAt w (some ⟨b, off, none⟩) xs) (j : Nat) (hj : j < xs.length) : w.cell? ⟨b, off + j, none⟩ = some (.int .i64 (xs.getD j 0)) := by
  obtain ⟨b', off', hx, hb, hc⟩ := h (by omega)
  simp only [Option.some.injEq, Addr.mk.injEq, and_true] at hx
  obtain ⟨rfl, rfl⟩ := hx
  exact hc j hj

theorem take_drop_snoc (xs : List Int) (cut m : Nat) (h : cut + m < xs.length) : (xs.drop cut).take (m + 1) = (xs.drop cut).take m ++ [xs.getD (cut + m) 0] := by
  rw [List.take_succ_eq_append_getElem (by rw [List.length_drop]; omega)]
  simp [List.getD, List.getElem?_eq_getElem h]

/-- The strides of the whole, in front of the cut. -/
theorem front (xs : List Int) (cut i : Nat) (h : i < cut) (hc : cut ≤ xs.length) : prodW (xs.drop (i + 1)) = wrap64 (prodW ((xs.take cut).drop (i + 1)) * prodW (xs.drop cut)) := by
  rw [← prodW_append]
  congr 1
  have e : xs.drop (i + 1) = (xs.take cut ++ xs.drop cut).drop (i + 1) := by rw [List.take_append_drop]
  rw [e, List.drop_append_of_le_length (by rw [List.length_take]; omega)]

theorem back (xs : List Int) (cut j : Nat) : prodW (xs.drop (cut + j + 1)) = prodW ((xs.drop cut).drop (j + 1)) := by
  rw [List.drop_drop, Nat.add_assoc]

theorem last_one (xs : List Int) (n : Nat) (h : xs.length = n) : prodW (xs.drop n) = 1 := by
  rw [List.drop_of_length_le (by omega), prodW_nil]

set_option maxHeartbeats 8000000 in
set_option maxRecDepth 10000 in
theorem concat_lt (x : Addr) (len cap cut : Nat) (xs : List Int) (w : World) (hlen : Hid (xs.length = len)) (hn : len ≤ 131072) (hcut : cut < len) (hat : Hid (IntAt w (some x) xs)) :
    Calls Try.prog 3 #[.slice (some x) len cap, .int .i64 cut] w fun e w' => e = .returned (.bool true) ∧ Below w.heap.size w w' := by
  obtain ⟨i0, hi, hz0, hz1, hz2⟩ := info_parts Try.info3
  have hmk := run_make (P := Try.prog) w 22 3 i0 (.int .i64 0) Try.underlying22 hi hz0 .i64 .i64 len len (by omega) (by omega) (by rw [hz2]; omega) (by omega)
  simp only [Int.toNat_natCast, hz1, Nat.mul_one] at hmk
  have hms := size_madeCells (Value.int .i64 0).cells len
  generalize madeCells (Value.int .i64 0).cells len = c0 at hmk hms
  obtain ⟨W2, hcopy, hat2, b2, hg2⟩ := copy_fresh x len cap xs c0 w hlen.out hms hat.out
  clear hi hz0 hz1 hz2 hms
  have HAT2 : Hid (IntAt W2 (some ⟨w.heap.size, 0, none⟩) xs) := hat2
  clear hat2
  have hneq := fun (w : World) => run_neq_slice_nil_any (P := Try.prog) w 22 3 (some x) len cap 0 0 Try.underlying22
  go_enter Try.func3, Try.ntmps3
  go_wp2_with (go_at_call 9; go_in)
  refine (strides_any (some ⟨w.heap.size, 0, none⟩) len len xs _ hlen.out (by omega) HAT2.out).mono ?_
  rintro e w3 ⟨g3, rfl, hs3, b3⟩
  clear hcopy hmk hneq
  go_wp2_with fail
  have HA3 : Hid (IntAt w3 (some ⟨w.heap.size, 0, none⟩) xs) := HAT2.out.carry b3
  refine (strides_any (some ⟨w.heap.size, 0, none⟩) cut len (xs.take cut) _ (by have := hlen.out; simp; omega) (by omega) (intAt_take HA3.out)).mono ?_
  rintro e w4 ⟨g4, rfl, hs4, b4⟩
  have HA4 : Hid (IntAt w4 (some ⟨w.heap.size, 0, none⟩) xs) := HA3.out.carry b4
  go_wp2_with fail
  refine (strides_any (some ⟨w.heap.size, cut, none⟩) (len - cut) (len - cut) (xs.drop cut) _ (by have := hlen.out; simp; omega) (by omega) (by have := intAt_drop (n := cut) HA4.out; rw [Nat.zero_add] at this; exact this)).mono ?_
  rintro e w5 ⟨g5, rfl, hs5, b5⟩
  have HA5 : Hid (IntAt w5 (some ⟨w.heap.size, 0, none⟩) xs) := HA4.out.carry b5
  have HS3 : Hid (StAt w5 g3 xs) := (hs3.carry b4).carry b5
  have HS4 : Hid (StAt w5 g4 (xs.take cut)) := hs4.carry b5
  have HS5 : Hid (StAt w5 g5 (xs.drop cut)) := hs5
  have bw5 : Below w.heap.size w w5 := ((b2.trans (b3.mono b2.size)).trans (b4.mono (by have := b2.size; have := b3.size; omega))).trans (b5.mono (by have := b2.size; have := b3.size; have := b4.size; omega))
  clear hs3 hs4 hs5 b3 b4 b5 HAT2 HA3 HA4 b2
  go_wp2
  go_loop [10, 11] (fun v10 v11 => ∃ m : Nat, cut + m ≤ len ∧ v11 = .int .i64 ((cut + m : Nat) : Int) ∧ v10 = .int .i64 (prodW ((xs.drop cut).take m))) (fun _ v11 => len - (intOf v11).toNat)
  case atStart => exact ⟨0, by omega, rfl, by rw [List.take_zero, prodW_nil]⟩
  case round =>
    obtain ⟨m, hm, rfl, rfl⟩ := hrel
    by_cases hlt : cut + m < len
    · have hcx := intAt_cell HA5.out (cut + m) (by rw [hlen.out]; exact hlt)
      rw [Nat.zero_add] at hcx
      obtain ⟨y, hy⟩ : ∃ y, y = xs.getD (cut + m) 0 := ⟨_, rfl⟩
      obtain ⟨P, hP⟩ : ∃ P, P = prodW ((xs.drop cut).take m) := ⟨_, rfl⟩
      rw [← hy] at hcx
      have HY : Hid (y = xs.getD (cut + m) 0) := hy
      have HP : Hid (P = prodW ((xs.drop cut).take m)) := hP
      rw [← hP]
      clear hy hP
      go_wp2
      go_round
      case rel => exact ⟨m + 1, by omega, by go_num, by rw [take_drop_snoc xs cut m (by rw [hlen.out]; exact hlt), prodW_snoc, HY.out, HP.out]⟩
      case measure => simp [intOf]; omega
    · obtain ⟨P, hP⟩ : ∃ P, P = prodW ((xs.drop cut).take m) := ⟨_, rfl⟩
      have HP : Hid (P = prodW (xs.drop cut)) := by
        rw [hP, List.take_of_length_le (by rw [List.length_drop, hlen.out]; omega)]
        rfl
      rw [← hP]
      clear hP
      go_wp2
      go_loopw [12] (fun v12 wr => ∃ i : Nat, i ≤ cut ∧ v12 = .int .i64 i ∧ Below w5.heap.size w5 wr) (fun v12 _ => cut - (intOf v12).toNat)
      case atStart => exact ⟨0, Nat.zero_le _, rfl, Below.refl _ _⟩
      case round =>
        obtain ⟨i, hi, rfl, hbi⟩ := hrel
        by_cases hlt2 : i < cut
        · have h3 := HS3.out.2 i (by rw [hlen.out]; omega)
          have h4 := HS4.out.2 i (by have := hlen.out; simp; omega)
          rw [front xs cut i hlt2 (by rw [hlen.out]; omega), ← HP.out] at h3
          obtain ⟨A, hA⟩ : ∃ A, A = prodW ((xs.take cut).drop (i + 1)) := ⟨_, rfl⟩
          rw [← hA] at h3 h4
          have h3' := (hbi.cell (p := ⟨g3, i, none⟩) HS3.out.1).trans h3
          have h4' := (hbi.cell (p := ⟨g4, i, none⟩) HS4.out.1).trans h4
          have hiL : (i : Int) < (len : Int) := by omega
          clear hA h3 h4
          go_wp2
          go_quiet (fail)
          go_wp2
          go_roundw
          case rel => exact ⟨i + 1, by omega, by go_num, below_drewN hbi _⟩
          case measure => simp [intOf]; omega
        · go_wp2
          go_loopw [13] (fun v13 wr => ∃ j : Nat, cut + j ≤ len ∧ v13 = .int .i64 j ∧ Below w5.heap.size w5 wr) (fun v13 _ => len - cut - (intOf v13).toNat)
          case atStart => exact ⟨0, by omega, rfl, hbi⟩
          case round =>
            obtain ⟨j, hj, rfl, hbj⟩ := hrel
            by_cases hlt3 : cut + j < len
            · have h3 := HS3.out.2 (cut + j) (by rw [hlen.out]; exact hlt3)
              have h5 := HS5.out.2 j (by have := hlen.out; simp; omega)
              rw [back xs cut j] at h3
              obtain ⟨V, hV⟩ : ∃ V, V = prodW ((xs.drop cut).drop (j + 1)) := ⟨_, rfl⟩
              rw [← hV] at h3 h5
              have h3' := (hbj.cell (p := ⟨g3, cut + j, none⟩) HS3.out.1).trans h3
              have h5' := (hbj.cell (p := ⟨g5, j, none⟩) HS5.out.1).trans h5
              have hjL : (cut : Int) + (j : Int) < (len : Int) := by omega
              clear hV h3 h5
              go_wp2
              go_quiet (fail)
              go_wp2
              go_roundw
              case rel => exact ⟨j + 1, by omega, by go_num, below_drewN hbj _⟩
              case measure => simp [intOf]; omega
            · clear hlt2 hlt hi hbi
              have hbw := bw5.trans (hbj.mono bw5.size)
              have z1 : wr.cell? ⟨g3, len - 1, none⟩ = some (.int .i64 1) := by
                rw [(hbj.cell (p := ⟨g3, len - 1, none⟩) HS3.out.1), HS3.out.2 (len - 1) (by rw [hlen.out]; omega), last_one xs (len - 1 + 1) (by rw [hlen.out]; omega)]
              have z3 : wr.cell? ⟨g5, len - cut - 1, none⟩ = some (.int .i64 1) := by
                rw [(hbj.cell (p := ⟨g5, len - cut - 1, none⟩) HS5.out.1), HS5.out.2 (len - cut - 1) (by have := hlen.out; simp; omega), last_one (xs.drop cut) (len - cut - 1 + 1) (by have := hlen.out; simp; omega)]
              by_cases hc0 : 0 < cut
              · have z2 : wr.cell? ⟨g4, cut - 1, none⟩ = some (.int .i64 1) := by
                  rw [(hbj.cell (p := ⟨g4, cut - 1, none⟩) HS4.out.1), HS4.out.2 (cut - 1) (by have := hlen.out; simp; omega), last_one (xs.take cut) (cut - 1 + 1) (by have := hlen.out; simp; omega)]
                go_wp2
                go_ret
                exact ⟨rfl, hbw⟩
              · go_wp2
                go_ret
                exact ⟨rfl, hbw⟩

set_option maxHeartbeats 8000000 in
set_option maxRecDepth 10000 in
theorem concat_eq (x : Addr) (cut cap : Nat) (xs : List Int) (w : World) (hlen : Hid (xs.length = cut)) (hn : cut ≤ 131072)  (hat : Hid (IntAt w (some x) xs)) :
    Calls Try.prog 3 #[.slice (some x) cut cap, .int .i64 cut] w fun e w' => e = .returned (.bool true) ∧ Below w.heap.size w w' := by
  obtain ⟨i0, hi, hz0, hz1, hz2⟩ := info_parts Try.info3
  have hmk := run_make (P := Try.prog) w 22 3 i0 (.int .i64 0) Try.underlying22 hi hz0 .i64 .i64 cut cut (by omega) (by omega) (by rw [hz2]; omega) (by omega)
  simp only [Int.toNat_natCast, hz1, Nat.mul_one] at hmk
  have hms := size_madeCells (Value.int .i64 0).cells cut
  generalize madeCells (Value.int .i64 0).cells cut = c0 at hmk hms
  obtain ⟨W2, hcopy, hat2, b2, hg2⟩ := copy_fresh x cut cap xs c0 w hlen.out hms hat.out
  clear hi hz0 hz1 hz2 hms
  have HAT2 : Hid (IntAt W2 (some ⟨w.heap.size, 0, none⟩) xs) := hat2
  clear hat2
  have hneq := fun (w : World) => run_neq_slice_nil_any (P := Try.prog) w 22 3 (some x) cut cap 0 0 Try.underlying22
  go_enter Try.func3, Try.ntmps3
  go_wp2_with (go_at_call 9; go_in)
  refine (strides_any (some ⟨w.heap.size, 0, none⟩) cut cut xs _ hlen.out (by omega) HAT2.out).mono ?_
  rintro e w3 ⟨g3, rfl, hs3, b3⟩
  clear hcopy hmk hneq
  go_wp2_with fail
  have HA3 : Hid (IntAt w3 (some ⟨w.heap.size, 0, none⟩) xs) := HAT2.out.carry b3
  refine (strides_any (some ⟨w.heap.size, 0, none⟩) cut cut (xs.take cut) _ (by have := hlen.out; simp; omega) (by omega) (intAt_take HA3.out)).mono ?_
  rintro e w4 ⟨g4, rfl, hs4, b4⟩
  have HA4 : Hid (IntAt w4 (some ⟨w.heap.size, 0, none⟩) xs) := HA3.out.carry b4
  go_wp2_with fail
  refine (strides_any (some ⟨w.heap.size, 0, none⟩) 0 0 (xs.drop cut) _ (by have := hlen.out; simp; omega) (by omega) (fun h => by have := hlen.out; simp at h; omega)).mono ?_
  rintro e w5 ⟨g5, rfl, hs5, b5⟩
  have HA5 : Hid (IntAt w5 (some ⟨w.heap.size, 0, none⟩) xs) := HA4.out.carry b5
  have HS3 : Hid (StAt w5 g3 xs) := (hs3.carry b4).carry b5
  have HS4 : Hid (StAt w5 g4 (xs.take cut)) := hs4.carry b5
  have HS5 : Hid (StAt w5 g5 (xs.drop cut)) := hs5
  have bw5 : Below w.heap.size w w5 := ((b2.trans (b3.mono b2.size)).trans (b4.mono (by have := b2.size; have := b3.size; omega))).trans (b5.mono (by have := b2.size; have := b3.size; have := b4.size; omega))
  clear hs3 hs4 hs5 b3 b4 b5 HAT2 HA3 HA4 b2
  go_wp2
  go_loop [10, 11] (fun v10 v11 => ∃ m : Nat, cut + m ≤ cut ∧ v11 = .int .i64 ((cut + m : Nat) : Int) ∧ v10 = .int .i64 (prodW ((xs.drop cut).take m))) (fun _ v11 => cut - (intOf v11).toNat)
  case atStart => exact ⟨0, by omega, rfl, by rw [List.take_zero, prodW_nil]⟩
  case round =>
    obtain ⟨m, hm, rfl, rfl⟩ := hrel
    by_cases hlt : cut + m < cut
    · omega
    · obtain ⟨P, hP⟩ : ∃ P, P = prodW ((xs.drop cut).take m) := ⟨_, rfl⟩
      have HP : Hid (P = prodW (xs.drop cut)) := by
        rw [hP, List.take_of_length_le (by rw [List.length_drop, hlen.out]; omega)]
        rfl
      rw [← hP]
      clear hP
      go_wp2
      go_loopw [12] (fun v12 wr => ∃ i : Nat, i ≤ cut ∧ v12 = .int .i64 i ∧ Below w5.heap.size w5 wr) (fun v12 _ => cut - (intOf v12).toNat)
      case atStart => exact ⟨0, Nat.zero_le _, rfl, Below.refl _ _⟩
      case round =>
        obtain ⟨i, hi, rfl, hbi⟩ := hrel
        by_cases hlt2 : i < cut
        · have h3 := HS3.out.2 i (by rw [hlen.out]; omega)
          have h4 := HS4.out.2 i (by have := hlen.out; simp; omega)
          rw [front xs cut i hlt2 (by rw [hlen.out]; omega), ← HP.out] at h3
          obtain ⟨A, hA⟩ : ∃ A, A = prodW ((xs.take cut).drop (i + 1)) := ⟨_, rfl⟩
          rw [← hA] at h3 h4
          have h3' := (hbi.cell (p := ⟨g3, i, none⟩) HS3.out.1).trans h3
          have h4' := (hbi.cell (p := ⟨g4, i, none⟩) HS4.out.1).trans h4
          have hiL : (i : Int) < (cut : Int) := by omega
          clear hA h3 h4
          go_wp2
          go_quiet (fail)
          go_wp2
          go_roundw
          case rel => exact ⟨i + 1, by omega, by go_num, below_drewN hbi _⟩
          case measure => simp [intOf]; omega
        · go_wp2
          go_loopw [13] (fun v13 wr => ∃ j : Nat, cut + j ≤ cut ∧ v13 = .int .i64 j ∧ Below w5.heap.size w5 wr) (fun v13 _ => cut - cut - (intOf v13).toNat)
          case atStart => exact ⟨0, by omega, rfl, hbi⟩
          case round =>
            obtain ⟨j, hj, rfl, hbj⟩ := hrel
            by_cases hlt3 : cut + j < cut
            · omega
            · clear hlt2 hlt hi hbi
              have hbw := bw5.trans (hbj.mono bw5.size)
              by_cases hc0 : 0 < cut
              · have z1 : wr.cell? ⟨g3, cut - 1, none⟩ = some (.int .i64 1) := by
                  rw [(hbj.cell (p := ⟨g3, cut - 1, none⟩) HS3.out.1), HS3.out.2 (cut - 1) (by rw [hlen.out]; omega), last_one xs (cut - 1 + 1) (by rw [hlen.out]; omega)]
                have z2 : wr.cell? ⟨g4, cut - 1, none⟩ = some (.int .i64 1) := by
                  rw [(hbj.cell (p := ⟨g4, cut - 1, none⟩) HS4.out.1), HS4.out.2 (cut - 1) (by have := hlen.out; simp; omega), last_one (xs.take cut) (cut - 1 + 1) (by have := hlen.out; simp; omega)]
                go_wp2
                go_ret
                exact ⟨rfl, hbw⟩
              · go_wp2
                go_ret
                exact ⟨rfl, hbw⟩

end Go.Proofs.Qxb6608540a
