/-
  Walks over a slice of strings: zzStringsBytes, zzCloneStrings, the guard of FnMatchAnyLiteralPattern.
-/
import Derived.Test.Qxb6605946aStrs
import Derived.Laws.MakeOwn
namespace Go.Proofs.Qxb6605946a
open Go.RowKit
set_option linter.unusedVariables false

/-! ### zzStringsBytes: some number, not great -/
set_option maxHeartbeats 1000000 in
theorem stringsBytes_none (a : Option Addr) (cap : Nat) (w : World) :
    Calls Try.prog 9 #[.slice a 0 cap] w fun e w' => e = .returned (.int .i64 0) ∧ w = w' := by
  go_enter Try.func9, Try.ntmps9
  go_wp2
  refine wp_loop_rounds 1 ?_
  rw [rounds_succ]
  go_wp2
  go_ret
  exact ⟨rfl, rfl⟩

theorem row_cell {w : World} {b off len : Nat} {ss : List ByteArray} (hlen : ss.length = len) (hc : ∀ j, j < ss.length → w.cell? ⟨b, off + j, none⟩ = some (.string (ss.getD j ByteArray.empty))) (k : Nat) (h : k < len) :
    ∃ s, w.cell? ⟨b, off + k, none⟩ = some (.string s) ∧ s = ss.getD k ByteArray.empty ∧ s ∈ ss := by
  have hk : k < ss.length := by omega
  refine ⟨ss.getD k ByteArray.empty, hc k hk, rfl, ?_⟩
  simp only [List.getD, List.getElem?_eq_getElem hk, Option.getD_some]
  exact List.getElem_mem hk

set_option maxHeartbeats 1000000 in
theorem stringsBytes_some (b off len cap : Nat) (ss : List ByteArray) (w : World) (hlen : ss.length = len) (hn : len ≤ 1048576) (hss : ∀ s ∈ ss, s.size ≤ 1048576)
    (hc : ∀ j, j < ss.length → w.cell? ⟨b, off + j, none⟩ = some (.string (ss.getD j ByteArray.empty))) :
    Calls Try.prog 9 #[.slice (some ⟨b, off, none⟩) len cap] w fun e w' => (∃ T : Int, e = .returned (.int .i64 T) ∧ 0 ≤ T ∧ T ≤ 33554432) ∧ w = w' := by
  have HC : Hid (∀ j, j < ss.length → w.cell? ⟨b, off + j, none⟩ = some (.string (ss.getD j ByteArray.empty))) := hc
  have HN : Hid (ss.length = len) := hlen
  have HSS : Hid (∀ s ∈ ss, s.size ≤ 1048576) := hss
  clear hc hlen hss
  go_enter Try.func9, Try.ntmps9
  go_wp2
  go_loop [3, 4] (fun v i => ∃ (k : Nat) (T : Int), k ≤ len ∧ i = .int .i64 k ∧ v = .int .i64 T ∧ 0 ≤ T ∧ T ≤ 33554432) (fun _ i => len - (intOf i).toNat)
  case atStart => exact ⟨0, 16 * len, Nat.zero_le _, rfl, by go_num, by omega, by omega⟩
  case round =>
    obtain ⟨k, T, hk, rfl, rfl, hT0, hT1⟩ := hrel
    by_cases hlt : k < len
    · obtain ⟨s, hcx, hs, hmem⟩ := row_cell HN.out HC.out k hlt
      have hsz := HSS.out s hmem
      clear hs hmem
      by_cases hbig : 1048576 < T
      · go_wp2
        go_ret
        exact ⟨⟨T, rfl, hT0, hT1⟩, rfl⟩
      · go_wp2
        go_round
        case rel => exact ⟨k + 1, T + s.size, by omega, by go_num, rfl, by omega, by omega⟩
        case measure => simp [intOf]; omega
    · go_wp2
      go_ret
      exact ⟨⟨T, rfl, hT0, hT1⟩, rfl⟩

theorem stringsBytes_any (v : Value) (ss : List ByteArray) (w : World) (hn : ss.length ≤ 1048576) (hss : ∀ s ∈ ss, s.size ≤ 1048576) (h : StrRow w v ss) :
    Calls Try.prog 9 #[v] w fun e w' => (∃ T : Int, e = .returned (.int .i64 T) ∧ 0 ≤ T ∧ T ≤ 33554432) ∧ w = w' := by
  rcases h with ⟨a, cap, rfl, rfl⟩ | ⟨b, off, cap, rfl, _, hb, hc⟩
  · refine (stringsBytes_none a cap w).mono ?_
    rintro e w' ⟨rfl, rfl⟩
    exact ⟨⟨0, rfl, by omega, by omega⟩, rfl⟩
  · exact stringsBytes_some b off ss.length cap ss w rfl hn hss hc

/-! ### zzCloneStrings -/
theorem Try.info9 : (Try.prog.info? 9).map (fun i => (i.zero, i.size, i.bytes)) = some (some (.string ByteArray.empty), 1, 16) := by kernel_rfl

theorem set_snoc {c : Array Value} {k : Nat} {ss : List ByteArray} {s : ByteArray} (h : ∀ j, j < k → c[j]? = some (.string (ss.getD j ByteArray.empty))) (hk : k < c.size) (hs : s = ss.getD k ByteArray.empty) :
    ∀ j, j < k + 1 → (c.setIfInBounds k (.string s))[j]? = some (.string (ss.getD j ByteArray.empty)) := by
  intro j hj
  by_cases e : j = k
  · subst e
    rw [Array.getElem?_setIfInBounds_self_of_lt hk, hs]
  · rw [Array.getElem?_setIfInBounds_ne (by omega)]
    exact h j (by omega)

set_option maxHeartbeats 1000000 in
theorem clone_nil (cap : Nat) (w : World) :
    Calls Try.prog 10 #[.slice none 0 cap] w fun e w' => e = .returned (.slice none 0 0) ∧ w = w' := by
  have hnil := fun (w : World) => Lib.run_eql_slice_nil (P := Try.prog) w 22 9 none 0 cap 0 0 Try.underlying22
  go_enter Try.func10, Try.ntmps10
  go_wp2
  go_ret
  exact ⟨rfl, rfl⟩

set_option maxHeartbeats 1000000 in
theorem clone_some (b off len cap : Nat) (ss : List ByteArray) (w : World) (hlen : ss.length = len) (hn : len ≤ 1048576) (hb : b < w.heap.size)
    (hc : ∀ j, j < ss.length → w.cell? ⟨b, off + j, none⟩ = some (.string (ss.getD j ByteArray.empty))) :
    Calls Try.prog 10 #[.slice (some ⟨b, off, none⟩) len cap] w fun e w' => ∃ c : Array Value, e = .returned (.slice (some ⟨w.heap.size, 0, none⟩) len len) ∧ w' = w.alloc (.cells c 9) ∧ c.size = len ∧ ∀ j, j < len → c[j]? = some (.string (ss.getD j ByteArray.empty)) := by
  obtain ⟨i0, hi, hz0, hz1, hz2⟩ := info_parts Try.info9
  have hmk := run_make (P := Try.prog) w 22 9 i0 (.string ByteArray.empty) Try.underlying22 hi hz0 .i64 .i64 len len (by omega) (by omega) (by rw [hz2]; omega) (by omega)
  simp only [Int.toNat_natCast, hz1, Nat.mul_one] at hmk
  have HC : Hid (∀ j, j < ss.length → w.cell? ⟨b, off + j, none⟩ = some (.string (ss.getD j ByteArray.empty))) := hc
  have HN : Hid (ss.length = len) := hlen
  have hms := size_madeCells (Value.string ByteArray.empty).cells len
  generalize madeCells (Value.string ByteArray.empty).cells len = c0 at hmk hms
  clear hc hlen hi hz0 hz1 hz2
  have hnil := fun (w : World) => Lib.run_eql_slice_nil (P := Try.prog) w 22 9 (some ⟨b, off, none⟩) len cap 0 0 Try.underlying22
  go_enter Try.func10, Try.ntmps10
  go_wp2
  go_loopw [4] (fun i wr => ∃ (k : Nat) (c : Array Value), k ≤ len ∧ i = .int .i64 k ∧ wr = w.alloc (.cells c 9) ∧ c.size = len ∧ ∀ j, j < k → c[j]? = some (.string (ss.getD j ByteArray.empty))) (fun i _ => len - (intOf i).toNat)
  case atStart => exact ⟨0, c0, Nat.zero_le _, rfl, rfl, hms, fun j hj => absurd hj (Nat.not_lt_zero _)⟩
  case round =>
    obtain ⟨k, c, hk, rfl, rfl, hcs, hall⟩ := hrel
    have HA : Hid (∀ j, j < k → c[j]? = some (.string (ss.getD j ByteArray.empty))) := hall
    clear hall hmk hms
    by_cases hlt : k < len
    · obtain ⟨s, hcx0, hs, hmem⟩ := row_cell HN.out HC.out k hlt
      have HS : Hid (s = ss.getD k ByteArray.empty) := hs
      clear hs hmem
      have hcx : (w.alloc (.cells c 9)).cell? ⟨b, off + k, none⟩ = some (.string s) := by rw [World.cell?_alloc_lt _ _ _ hb]; exact hcx0
      obtain ⟨v0, hv0⟩ : ∃ v0, c[k]? = some v0 := ⟨c[k]'(by omega), Array.getElem?_eq_getElem _⟩
      have hHC : Hid (c.size = len) := hcs
      clear hcx0 hcs
      go_wp2
      go_roundw
      case rel => exact ⟨k + 1, _, by omega, by go_num, rfl, by simpa using hHC.out, set_snoc HA.out (by rw [hHC.out]; exact hlt) HS.out⟩
      case measure => simp [intOf]; omega
    · go_wp2
      go_ret
      have hkn : k = len := by omega
      subst hkn
      exact ⟨c, rfl, rfl, hcs, HA.out⟩

set_option maxHeartbeats 1000000 in
theorem clone_empty (x : Addr) (cap : Nat) (w : World) :
    Calls Try.prog 10 #[.slice (some x) 0 cap] w fun e w' => ∃ c : Array Value, e = .returned (.slice (some ⟨w.heap.size, 0, none⟩) 0 0) ∧ w' = w.alloc (.cells c 9) := by
  obtain ⟨i0, hi, hz0, hz1, hz2⟩ := info_parts Try.info9
  have hmk := run_make (P := Try.prog) w 22 9 i0 (.string ByteArray.empty) Try.underlying22 hi hz0 .i64 .i64 0 0 (by omega) (by omega) (by rw [hz2]; omega) (by omega)
  simp only [Int.toNat_zero, Nat.zero_mul] at hmk
  generalize madeCells (Value.string ByteArray.empty).cells 0 = c0 at hmk
  clear hi hz0 hz1 hz2
  have hnil := fun (w : World) => Lib.run_eql_slice_nil (P := Try.prog) w 22 9 (some x) 0 cap 0 0 Try.underlying22
  go_enter Try.func10, Try.ntmps10
  go_wp2
  refine wp_loop_rounds 1 ?_
  rw [rounds_succ]
  go_wp2
  go_ret
  exact ⟨c0, rfl, rfl⟩

theorem clone_any (v : Value) (ss : List ByteArray) (w : World) (hn : ss.length ≤ 1048576) (h : StrRow w v ss) :
    Calls Try.prog 10 #[v] w fun e w' => ∃ v', e = .returned v' ∧ StrRow w' v' ss ∧ Below w.heap.size w w' := by
  rcases h with ⟨a, cap, rfl, rfl⟩ | ⟨b, off, cap, rfl, h0, hb, hc⟩
  · cases a with
    | none =>
      refine (clone_nil cap w).mono ?_
      rintro e w' ⟨rfl, rfl⟩
      exact ⟨_, rfl, .inl ⟨_, _, rfl, rfl⟩, Below.refl _ _⟩
    | some x =>
      refine (clone_empty x cap w).mono ?_
      rintro e w' ⟨c, rfl, rfl⟩
      exact ⟨_, rfl, .inl ⟨_, _, rfl, rfl⟩, (Below.refl _ _).alloc (Nat.le_refl _) _⟩
  · refine (clone_some b off ss.length cap ss w rfl hn hb hc).mono ?_
    rintro e w' ⟨c, rfl, rfl, hcs, hall⟩
    refine ⟨_, rfl, .inr ⟨w.heap.size, 0, ss.length, rfl, h0, by simp, fun j hj => ?_⟩, (Below.refl _ _).alloc (Nat.le_refl _) _⟩
    rw [Nat.zero_add, World.cell?_alloc_at _ _ _ _ rfl]
    exact hall j hj

/-! ### the guard -/
set_option maxHeartbeats 2000000 in
theorem fits_any_far (a b c : ByteArray) (t : Int) (x : Option Addr) (len cap : Nat) (w : World) (ha : a.size ≤ maxLen) (hb : b.size ≤ maxLen) (hc : c.size ≤ maxLen) (hn : len ≤ maxLen) (h : 1048576 < a.size + b.size + c.size + len) :
    Calls Try.prog 8 #[.string a, .int .u8 t, .string b, .string c, .slice x len cap] w fun e w' => e = .returned (.bool false) ∧ w = w' := by
  unfold maxLen at ha hb hc hn
  go_enter Try.func8, Try.ntmps8
  go_wp2
  all_goals go_ret
  all_goals exact ⟨rfl, rfl⟩

set_option maxHeartbeats 2000000 in
theorem fits_any_none (a b c : ByteArray) (t : Int) (x : Option Addr) (cap : Nat) (w : World) (h : a.size + b.size + c.size ≤ 1048576) :
    Calls Try.prog 8 #[.string a, .int .u8 t, .string b, .string c, .slice x 0 cap] w fun e w' => e = .returned (.bool true) ∧ w = w' := by
  go_enter Try.func8, Try.ntmps8
  go_wp2
  refine wp_loop_rounds 1 ?_
  rw [rounds_succ]
  go_wp2
  go_ret
  exact ⟨rfl, rfl⟩

theorem mem_of_all {ss : List ByteArray} {p : ByteArray → Prop} (h : ∀ j, j < ss.length → p (ss.getD j ByteArray.empty)) : ∀ s ∈ ss, p s := by
  intro s hs
  obtain ⟨j, hj, rfl⟩ := List.getElem_of_mem hs
  have := h j hj
  simpa [List.getD, List.getElem?_eq_getElem hj] using this

theorem le_snoc {ss : List ByteArray} {k : Nat} {s : ByteArray} (h : ∀ j, j < k → (ss.getD j ByteArray.empty).size ≤ 1048576) (hs : s = ss.getD k ByteArray.empty) (hm : s.size ≤ 1048576) :
    ∀ j, j < k + 1 → (ss.getD j ByteArray.empty).size ≤ 1048576 := by
  intro j hj
  by_cases e : j = k
  · rw [e, ← hs]; exact hm
  · exact h j (by omega)

def FitsEnd (ss : List ByteArray) (e : Ending) : Prop := ∃ ok : Bool, e = .returned (.bool ok) ∧ (ok = true → ∀ s ∈ ss, s.size ≤ 1048576)

set_option maxHeartbeats 2000000 in
theorem fits_any_some (A B C : ByteArray) (t : Int) (b off len cap : Nat) (ss : List ByteArray) (w : World) (h : A.size + B.size + C.size + len ≤ 1048576) (hlen : ss.length = len) (hss : ∀ s ∈ ss, s.size ≤ maxLen)
    (hc : ∀ j, j < ss.length → w.cell? ⟨b, off + j, none⟩ = some (.string (ss.getD j ByteArray.empty))) :
    Calls Try.prog 8 #[.string A, .int .u8 t, .string B, .string C, .slice (some ⟨b, off, none⟩) len cap] w fun e w' => FitsEnd ss e ∧ w = w' := by
  have HC : Hid (∀ j, j < ss.length → w.cell? ⟨b, off + j, none⟩ = some (.string (ss.getD j ByteArray.empty))) := hc
  have HN : Hid (ss.length = len) := hlen
  have HSS : Hid (∀ s ∈ ss, s.size ≤ maxLen) := hss
  clear hc hlen hss
  go_enter Try.func8, Try.ntmps8
  go_wp2
  go_loop [11, 12] (fun v i => ∃ (k : Nat) (T : Int), k ≤ len ∧ i = .int .i64 k ∧ v = .int .i64 T ∧ 0 ≤ T ∧ T ≤ 1048576 ∧ ∀ j, j < k → (ss.getD j ByteArray.empty).size ≤ 1048576) (fun _ i => len - (intOf i).toNat)
  case atStart => exact ⟨0, _, Nat.zero_le _, rfl, rfl, by omega, by omega, fun j hj => absurd hj (Nat.not_lt_zero _)⟩
  case round =>
    obtain ⟨k, T, hk, rfl, rfl, hT0, hT1, hall⟩ := hrel
    have HA : Hid (∀ j, j < k → (ss.getD j ByteArray.empty).size ≤ 1048576) := hall
    clear hall
    by_cases hlt : k < len
    · obtain ⟨s, hcx, hs, hmem⟩ := row_cell HN.out HC.out k hlt
      have HS : Hid (s = ss.getD k ByteArray.empty) := hs
      have hsz := HSS.out s hmem
      unfold maxLen at hsz
      clear hs hmem
      by_cases h1 : s.size ≤ 1048576
      · by_cases h2 : T + s.size ≤ 1048576
        · go_wp2
          go_round
          case rel => exact ⟨k + 1, T + s.size, by omega, by go_num, rfl, by omega, by omega, le_snoc HA.out HS.out h1⟩
          case measure => simp [intOf]; omega
        · go_wp2
          go_ret
          exact ⟨⟨false, rfl, fun hf => absurd hf Bool.false_ne_true⟩, rfl⟩
      · go_wp2
        go_ret
        exact ⟨⟨false, rfl, fun hf => absurd hf Bool.false_ne_true⟩, rfl⟩
    · go_wp2
      go_ret
      have hkn : k = len := by omega
      subst hkn
      exact ⟨⟨true, rfl, fun _ => mem_of_all (by rw [HN.out]; exact HA.out)⟩, rfl⟩

/-- What the guard says: where it answers true, the lengths are small. -/
theorem fits_any (A B C : ByteArray) (t : Int) (x : Option Addr) (len cap : Nat) (ss : List ByteArray) (w : World) (hA : A.size ≤ maxLen) (hB : B.size ≤ maxLen) (hC : C.size ≤ maxLen) (hn : len ≤ maxLen) (hss : ∀ s ∈ ss, s.size ≤ maxLen)
    (h : StrRow w (.slice x len cap) ss) :
    Calls Try.prog 8 #[.string A, .int .u8 t, .string B, .string C, .slice x len cap] w fun e w' => (∃ ok : Bool, e = .returned (.bool ok) ∧ (ok = true → A.size + B.size + C.size + ss.length ≤ 1048576 ∧ ∀ s ∈ ss, s.size ≤ 1048576)) ∧ w = w' := by
  have hl : ss.length = len := by
    rcases h with ⟨a, cap', hv, rfl⟩ | ⟨b, off, cap', hv, _⟩
    · injection hv with _ h2 _; rw [h2]; rfl
    · injection hv with _ h2 _; exact h2.symm
  by_cases hs : A.size + B.size + C.size + len ≤ 1048576
  · rcases h with ⟨a, cap', hv, rfl⟩ | ⟨b, off, cap', hv, _, hb, hc⟩
    · simp only [List.length_nil] at hl
      subst hl
      refine (fits_any_none A B C t x cap w (by omega)).mono ?_
      rintro e w' ⟨rfl, rfl⟩
      exact ⟨⟨true, rfl, fun _ => ⟨by simpa using hs, fun s hs => by cases hs⟩⟩, rfl⟩
    · injection hv with h1 h2 h3
      subst h1
      refine (fits_any_some A B C t b off len cap ss w hs hl hss hc).mono ?_
      rintro e w' ⟨⟨ok, rfl, hok⟩, rfl⟩
      exact ⟨⟨ok, rfl, fun e => ⟨by omega, hok e⟩⟩, rfl⟩
  · refine (fits_any_far A B C t x len cap w hA hB hC hn (by omega)).mono ?_
    rintro e w' ⟨rfl, rfl⟩
    exact ⟨⟨false, rfl, fun hf => absurd hf Bool.false_ne_true⟩, rfl⟩
end Go.Proofs.Qxb6605946a
