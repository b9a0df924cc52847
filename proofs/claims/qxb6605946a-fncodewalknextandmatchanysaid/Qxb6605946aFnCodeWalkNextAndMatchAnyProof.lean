/-
  The proof of Rows.FnCodeWalkNextAndMatchAnySaid: the frame after the one that the kit's tool writes for laws over slices of integers, turned to slices of strings; its walk stands in the texts beside it.
-/
import Derived.Test.Qxb6605946aRows
import Derived.WalkKit
import Derived.ProofKit
import Derived.OpenShut
import Derived.ShutString
import Derived.Carry
import Derived.SliceStrings
import Derived.ChangeOld
import Derived.Below
import Derived.Test.Qxb6605946aCodeWalk
namespace Go.Proofs.Qxb6605946a.fnCodeWalkNextAndMatchAny
open Go.ChangeShapes Go.WideShapes Go.ChangeAt Go.RowKit
open Go.ChangeMaps (open_string shut_string)
set_option linter.unusedVariables false

theorem own : ownKnob Try.prog.godebug = none := by kernel_rfl
theorem laidOut : laidOutB Try.prog = true := by kernel_rfl

/-- What a slice of strings that came in reads as. -/
theorem openedS {w : World} {x : Addr} {len cap : Nat} {zs : List ByteArray} (hl : len ≤ cap) (hz : zs.length = cap)
    (hcell : ∀ i, i < zs.length → w.cell? (x.add i) = some (.string (zs.getD i ByteArray.empty))) : StrAt w (some x) (zs.take len) := by
  intro h0
  have hlen : (zs.take len).length = len := by simp; omega
  rw [hlen] at h0
  have hb := World.block_lt_of_cell? w _ (hcell 0 (by omega))
  obtain ⟨b, off, spot⟩ := x
  have hspot : spot = none := by simpa [Addr.add] using World.cell?_spot (hcell 0 (by omega))
  subst hspot
  refine ⟨b, off, rfl, by simpa [Addr.add] using hb, fun j hj => ?_⟩
  rw [hlen] at hj
  rw [← Go.WideShapes.add_plain, hcell j (by omega)]
  simp [List.getD, hj]

theorem openedB {w : World} {x : Addr} {len cap : Nat} {zs : List Int} (hl : len ≤ cap) (hz : zs.length = cap)
    (hcell : ∀ i, i < zs.length → w.cell? (x.add i) = some (.int .u8 (zs.getD i 0))) : ByteAt w (some x) (zs.take len) := by
  intro h0
  have hlen : (zs.take len).length = len := by simp; omega
  rw [hlen] at h0
  have hb := World.block_lt_of_cell? w _ (hcell 0 (by omega))
  obtain ⟨b, off, spot⟩ := x
  have hspot : spot = none := by simpa [Addr.add] using World.cell?_spot (hcell 0 (by omega))
  subst hspot
  refine ⟨b, off, rfl, by simpa [Addr.add] using hb, fun j hj => ?_⟩
  rw [hlen] at hj
  rw [← Go.WideShapes.add_plain, hcell j (by omega)]
  simp [List.getD, hj]

theorem bytesOk {zs : List Int} (h : ∀ n ∈ zs, (Lit.int .u8 n).wf = true) : ∀ j, 0 ≤ zs.getD j 0 ∧ zs.getD j 0 ≤ 255 := by
  intro j
  have := range_u8 h j
  simpa [List.getD] using this

set_option maxRecDepth 100000 in
theorem lifted (os : Os) (started : os.Started) (H : Type) (enc : TypeId × Value → H) :
    ReturnsInHanded {} Try.checked os 5 .any (Rows.fnCodeWalkNextAndMatchAnySpec.pre6 enc Try.prog Try.f5 Rows.fnCodeWalkNextAndMatchAnyRow.domain false) (Rows.fnCodeWalkNextAndMatchAnySpec.post enc Try.prog Try.f5 false true false false) := by
  refine returnsInHanded_of_change (C := Try.checked) own started (by kernel_rfl) Try.func5
    (ChangeSpec.witness6 (enc := enc) (C := Try.checked) false ⟨#[], #[.slice none 0 0, .slice none 0 0, .slice none 0 0], []⟩ 8 (by kernel_rfl) (by kernel_rfl) (by kernel_rfl) (by kernel_rfl)) ?_
  intro W base args ds gs before hval0 hW hcnd _
  have hval : ∀ (j : Nat) t v, Try.f5.params[j]? = some t → args[j]? = some v → Value.okWide Try.prog W .any base t v := hval0
  have hW' := hW
  obtain ⟨p, q, hA0, hV, rfl, hfz, hnd⟩ := hW
  have hA : DataW.TrodAll enc Try.prog W 0 (fun _ => true) true Try.f5.params.toList args.toList ds p := hA0
  rw [Try.params5] at hA hval
  obtain ⟨v0, vs0, d0, ds0, p0, q0, hargs, rfl, rfl, h0, r0⟩ := trodAll_cons hA
  obtain ⟨v1, vs1, d1, ds1, p1, q1, rfl, rfl, rfl, h1, r1⟩ := trodAll_cons r0
  obtain ⟨v2, vs2, d2, ds2, p2, q2, rfl, rfl, rfl, h2, r2⟩ := trodAll_cons r1
  obtain ⟨rfl, rfl, rfl⟩ := trodAll_nil r2
  obtain rfl : args = #[v0, v1, v2] := by cases args; simp_all
  obtain ⟨rfl, rfl⟩ := trodVars_none hV
  obtain ⟨a0, len0, cap0, rfl⟩ := okWide_slice Try.underlying26 (hval 0 26 v0 rfl rfl)
  have k0 := h0
  have lt0 : ∀ x ∈ p0, x.block < W.heap.size := by obtain ⟨m, hm⟩ := k0; exact DataW.trod_lt m _ _ _ hm
  obtain ⟨zs, hn0, hl0, hrow0, hw0⟩ : ∃ zs : List Int, len0 ≤ maxLen ∧ zs.length = len0 ∧ ByteAt W a0 zs ∧ ∀ j, 0 ≤ zs.getD j 0 ∧ zs.getD j 0 ≤ 255 := by
    obtain ⟨fuel, hf⟩ := h0
    rcases open_ints Try.underlying26 Try.underlying5 (by kernel_rfl) hf with ⟨hcs, _⟩ | ⟨x, l, c, zs, hcs, _, hl, hm, hz, _, hcell, hwz⟩
    · simp [Value.cells] at hcs
      obtain ⟨rfl, rfl, rfl⟩ := hcs
      exact ⟨[], Nat.zero_le _, rfl, fun h => absurd h (Nat.lt_irrefl _), fun j => by simp⟩
    · simp [Value.cells] at hcs
      obtain ⟨rfl, rfl, rfl⟩ := hcs
      have hz' : zs.length = cap0 := by simpa using hz
      exact ⟨zs.take len0, Nat.le_trans hl hm, by simp; omega, openedB hl hz' hcell, bytesOk (fun n hn => hwz n (List.mem_of_mem_take hn))⟩
  obtain ⟨a1, len1, cap1, rfl⟩ := okWide_slice Try.underlying22 (hval 1 22 v1 rfl rfl)
  have k1 := h1
  have lt1 : ∀ x ∈ p1, x.block < W.heap.size := by obtain ⟨m, hm⟩ := k1; exact DataW.trod_lt m _ _ _ hm
  obtain ⟨ls, hn1, hl1, hrow1, hw1⟩ : ∃ ss : List ByteArray, len1 ≤ maxLen ∧ ss.length = len1 ∧ StrAt W a1 ss ∧ ∀ s ∈ ss, s.size ≤ maxLen := by
    obtain ⟨fuel, hf⟩ := h1
    rcases open_strings Try.underlying22 Try.underlying9 (by kernel_rfl) hf with ⟨hcs, _⟩ | ⟨x, l, c, zs, hcs, _, hl, hm, hz, _, hcell, hws⟩
    · simp [Value.cells] at hcs
      obtain ⟨rfl, rfl, rfl⟩ := hcs
      exact ⟨[], Nat.zero_le _, rfl, fun h => absurd h (Nat.lt_irrefl _), fun s hs => by cases hs⟩
    · simp [Value.cells] at hcs
      obtain ⟨rfl, rfl, rfl⟩ := hcs
      have hz' : zs.length = cap1 := by simpa using hz
      exact ⟨zs.take len1, Nat.le_trans hl hm, by simp; omega, openedS hl hz' hcell, fun s hs => hws s (List.mem_of_mem_take hs)⟩
  obtain ⟨a2, len2, cap2, rfl⟩ := okWide_slice Try.underlying22 (hval 2 22 v2 rfl rfl)
  have k2 := h2
  have lt2 : ∀ x ∈ p2, x.block < W.heap.size := by obtain ⟨m, hm⟩ := k2; exact DataW.trod_lt m _ _ _ hm
  obtain ⟨ss, hn2, hl2, hrow2, hw2⟩ : ∃ ss : List ByteArray, len2 ≤ maxLen ∧ ss.length = len2 ∧ StrAt W a2 ss ∧ ∀ s ∈ ss, s.size ≤ maxLen := by
    obtain ⟨fuel, hf⟩ := h2
    rcases open_strings Try.underlying22 Try.underlying9 (by kernel_rfl) hf with ⟨hcs, _⟩ | ⟨x, l, c, zs, hcs, _, hl, hm, hz, _, hcell, hws⟩
    · simp [Value.cells] at hcs
      obtain ⟨rfl, rfl, rfl⟩ := hcs
      exact ⟨[], Nat.zero_le _, rfl, fun h => absurd h (Nat.lt_irrefl _), fun s hs => by cases hs⟩
    · simp [Value.cells] at hcs
      obtain ⟨rfl, rfl, rfl⟩ := hcs
      have hz' : zs.length = cap2 := by simpa using hz
      exact ⟨zs.take len2, Nat.le_trans hl hm, by simp; omega, openedS hl hz' hcell, fun s hs => hws s (List.mem_of_mem_take hs)⟩
  clear hA0 hval0
  refine (code_walk a0 a1 a2 len0 len1 len2 cap0 cap1 cap2 zs ls ss W hn0 hn1 hn2 hl0 hl1 hl2 hw0 hw1 hw2 hrow0 hrow1 hrow2).mono fun e W' ⟨he, bel⟩ => ?_
  subst he
  exact ⟨_, rfl, _, _, _, [], _, [], hW', trodAll_mk1 (shut_bool Try.underlying4 _), (trodAll_cons_mk (Below.trod laidOut (by kernel_rfl) (of_decide_eq_true (by kernel_rfl)) k0 bel lt0) (trodAll_cons_mk (Below.trod laidOut (by kernel_rfl) (of_decide_eq_true (by kernel_rfl)) k1 bel lt1) (trodAll_cons_mk (Below.trod laidOut (by kernel_rfl) (of_decide_eq_true (by kernel_rfl)) k2 bel lt2) trodAll_mk0))), rfl, bel.frame _, fun h => by cases h⟩

theorem over : Rows.fnCodeWalkNextAndMatchAnyRow.holds Try.pinned (OpenSpec.ofChange Rows.fnCodeWalkNextAndMatchAnySpec) :=
  OpenClaim.holds_of_wide 5 Try.f5 rfl rfl rfl rfl rfl rfl rfl ⟨rfl, rfl, rfl, rfl, rfl⟩ rfl rfl rfl rfl rfl (by kernel_rfl) Try.func5 (by kernel_rfl)
    (of_decide_eq_true (by kernel_rfl)) (by unfold Func.isWrapper; first | (rw [if_pos (by decide +kernel)]; kernel_rfl) | (rw [if_neg (by decide +kernel)]; exact ⟨rfl, rfl⟩))
    (fun os started H enc _ => lifted os started H enc)

/-- THE STATEMENT -/
theorem proved : Rows.FnCodeWalkNextAndMatchAnySaid := over
end Go.Proofs.Qxb6605946a.fnCodeWalkNextAndMatchAny
