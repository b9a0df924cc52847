/-
  The proof of Rows.FnAgainstShareModelAndMirrorSaid: the frame after the one that the kit's tool writes for laws over slices of integers, turned to a slice of strings beside one of integers; its walk stands in the texts beside it.
-/
import Derived.Test.Qxb6608540aRows
import Derived.WalkKit
import Derived.ProofKit
import Derived.OpenShut
import Derived.ShutString
import Derived.Carry
import Derived.SliceStrings
import Derived.ChangeOld
import Derived.Below
import Derived.Test.Qxb6608540aMirror
namespace Go.Proofs.Qxb6608540a.fnAgainstShareModelAndMirror
open Go.ChangeShapes Go.WideShapes Go.ChangeAt Go.RowKit
open Go.ChangeMaps (open_string shut_string)
set_option linter.unusedVariables false

theorem own : ownKnob Try.prog.godebug = none := by kernel_rfl
theorem laidOut : laidOutB Try.prog = true := by kernel_rfl

/-- What a slice of strings that came in reads as. -/
theorem openedS {w : World} {x : Addr} {len cap : Nat} {zs : List ByteArray} (hl : len ≤ cap) (hz : zs.length = cap)
    (hcell : ∀ i, i < zs.length → w.cell? (x.add i) = some (.string (zs.getD i ByteArray.empty))) : StrAt w (some x) (zs.take len) := by
  intro h0
  have hlen : (zs.take len).length = len := by simp; omega
  rw [hlen] at h0
  have hb := World.block_lt_of_cell? w _ (hcell 0 (by omega))
  obtain ⟨b, off, spot⟩ := x
  have hspot : spot = none := by simpa [Addr.add] using World.cell?_spot (hcell 0 (by omega))
  subst hspot
  refine ⟨b, off, rfl, by simpa [Addr.add] using hb, fun j hj => ?_⟩
  rw [hlen] at hj
  rw [← Go.WideShapes.add_plain, hcell j (by omega)]
  simp [List.getD, hj]

theorem openedI {w : World} {x : Addr} {len cap : Nat} {zs : List Int} (hl : len ≤ cap) (hz : zs.length = cap)
    (hcell : ∀ i, i < zs.length → w.cell? (x.add i) = some (.int .i64 (zs.getD i 0))) : IntAt w (some x) (zs.take len) := by
  intro h0
  have hlen : (zs.take len).length = len := by simp; omega
  rw [hlen] at h0
  have hb := World.block_lt_of_cell? w _ (hcell 0 (by omega))
  obtain ⟨b, off, spot⟩ := x
  have hspot : spot = none := by simpa [Addr.add] using World.cell?_spot (hcell 0 (by omega))
  subst hspot
  refine ⟨b, off, rfl, by simpa [Addr.add] using hb, fun j hj => ?_⟩
  rw [hlen] at hj
  rw [← Go.WideShapes.add_plain, hcell j (by omega)]
  simp [List.getD, hj]

theorem intsOk {zs : List Int} (h : ∀ n ∈ zs, (Lit.int .i64 n).wf = true) : ∀ j, (Lit.int .i64 (zs.getD j 0)).wf = true := by
  intro j
  by_cases hj : j < zs.length
  · simp only [List.getD, List.getElem?_eq_getElem hj, Option.getD_some]
    exact h _ (List.getElem_mem hj)
  · simp only [List.getD, List.getElem?_eq_none (Nat.le_of_not_lt hj), Option.getD_none]
    decide

set_option maxRecDepth 100000 in
theorem lifted (os : Os) (started : os.Started) (H : Type) (enc : TypeId × Value → H) :
    ReturnsInHanded {} Try.checked os 6 .any (Rows.fnAgainstShareModelAndMirrorSpec.pre6 enc Try.prog Try.f6 Rows.fnAgainstShareModelAndMirrorRow.domain false) (Rows.fnAgainstShareModelAndMirrorSpec.post enc Try.prog Try.f6 false true false false) := by
  refine returnsInHanded_of_change (C := Try.checked) own started (by kernel_rfl) Try.func6
    (ChangeSpec.witness6 (enc := enc) (C := Try.checked) false ⟨#[], #[.int .i64 0, .int .i64 0, .slice none 0 0, .slice none 0 0, .int .i64 0, .string ByteArray.empty], []⟩ 8 (by kernel_rfl) (by kernel_rfl) (by kernel_rfl) (by kernel_rfl)) ?_
  intro W base args ds gs before hval0 hW hcnd _
  have hval : ∀ (j : Nat) t v, Try.f6.params[j]? = some t → args[j]? = some v → Value.okWide Try.prog W .any base t v := hval0
  have hW' := hW
  obtain ⟨p, q, hA0, hV, rfl, hfz, hnd⟩ := hW
  have hA : DataW.TrodAll enc Try.prog W 0 (fun _ => true) true Try.f6.params.toList args.toList ds p := hA0
  rw [Try.params6] at hA hval
  obtain ⟨v0, vs0, d0, ds0, p0, q0, hargs, rfl, rfl, h0, r0⟩ := trodAll_cons hA
  obtain ⟨v1, vs1, d1, ds1, p1, q1, rfl, rfl, rfl, h1, r1⟩ := trodAll_cons r0
  obtain ⟨v2, vs2, d2, ds2, p2, q2, rfl, rfl, rfl, h2, r2⟩ := trodAll_cons r1
  obtain ⟨v3, vs3, d3, ds3, p3, q3, rfl, rfl, rfl, h3, r3⟩ := trodAll_cons r2
  obtain ⟨v4, vs4, d4, ds4, p4, q4, rfl, rfl, rfl, h4, r4⟩ := trodAll_cons r3
  obtain ⟨v5, vs5, d5, ds5, p5, q5, rfl, rfl, rfl, h5, r5⟩ := trodAll_cons r4
  obtain ⟨rfl, rfl, rfl⟩ := trodAll_nil r5
  obtain rfl : args = #[v0, v1, v2, v3, v4, v5] := by cases args; simp_all
  obtain ⟨rfl, rfl⟩ := trodVars_none hV
  obtain ⟨a0, rfl, rfl, rfl, w0⟩ := open_int Try.underlying2 (hval 0 2 v0 rfl rfl) h0
  obtain ⟨a1, rfl, rfl, rfl, w1⟩ := open_int Try.underlying2 (hval 1 2 v1 rfl rfl) h1
  obtain ⟨a2, len2, cap2, rfl⟩ := okWide_slice Try.underlying26 (hval 2 26 v2 rfl rfl)
  have k2 := h2
  have lt2 : ∀ x ∈ p2, x.block < W.heap.size := by obtain ⟨m, hm⟩ := k2; exact DataW.trod_lt m _ _ _ hm
  obtain ⟨ks, hn2, hl2, hrow2, hw2⟩ : ∃ ss : List ByteArray, len2 ≤ maxLen ∧ ss.length = len2 ∧ StrAt W a2 ss ∧ ∀ s ∈ ss, s.size ≤ maxLen := by
    obtain ⟨fuel, hf⟩ := h2
    rcases open_strings Try.underlying26 Try.underlying9 (by kernel_rfl) hf with ⟨hcs, _⟩ | ⟨x, l, c, zs, hcs, _, hl, hm, hz, _, hcell, hws⟩
    · simp [Value.cells] at hcs
      obtain ⟨rfl, rfl, rfl⟩ := hcs
      exact ⟨[], Nat.zero_le _, rfl, fun h => absurd h (Nat.lt_irrefl _), fun s hs => by cases hs⟩
    · simp [Value.cells] at hcs
      obtain ⟨rfl, rfl, rfl⟩ := hcs
      have hz' : zs.length = cap2 := by simpa using hz
      exact ⟨zs.take len2, Nat.le_trans hl hm, by simp; omega, openedS hl hz' hcell, fun s hs => hws s (List.mem_of_mem_take hs)⟩
  obtain ⟨a3, len3, cap3, rfl⟩ := okWide_slice Try.underlying41 (hval 3 41 v3 rfl rfl)
  have k3 := h3
  have lt3 : ∀ x ∈ p3, x.block < W.heap.size := by obtain ⟨m, hm⟩ := k3; exact DataW.trod_lt m _ _ _ hm
  obtain ⟨vs, hn3, hl3, hrow3, hw3⟩ : ∃ zs : List Int, len3 ≤ maxLen ∧ zs.length = len3 ∧ IntAt W a3 zs ∧ ∀ j, (Lit.int .i64 (zs.getD j 0)).wf = true := by
    obtain ⟨fuel, hf⟩ := h3
    rcases open_ints Try.underlying41 Try.underlying2 (by kernel_rfl) hf with ⟨hcs, _⟩ | ⟨x, l, c, zs, hcs, _, hl, hm, hz, _, hcell, hwz⟩
    · simp [Value.cells] at hcs
      obtain ⟨rfl, rfl, rfl⟩ := hcs
      exact ⟨[], Nat.zero_le _, rfl, fun h => absurd h (Nat.lt_irrefl _), intsOk (fun n hn => by cases hn)⟩
    · simp [Value.cells] at hcs
      obtain ⟨rfl, rfl, rfl⟩ := hcs
      have hz' : zs.length = cap3 := by simpa using hz
      exact ⟨zs.take len3, Nat.le_trans hl hm, by simp; omega, openedI hl hz' hcell, intsOk (fun n hn => hwz n (List.mem_of_mem_take hn))⟩
  obtain ⟨a4, rfl, rfl, rfl, w4⟩ := open_int Try.underlying2 (hval 4 2 v4 rfl rfl) h4
  obtain ⟨a5, rfl, rfl, rfl, w5⟩ := open_string Try.underlying9 (hval 5 9 v5 rfl rfl) h5
  clear hA0 hval0
  refine (mirror_walk a0 a4 a1 a2 a3 len2 len3 cap2 cap3 a5 ks vs W hn2 hn3 w5 hl2 hl3 hw2 hw3 (bounds_i64 w1).2 hrow2 hrow3).mono fun e W' ⟨he, bel⟩ => ?_
  subst he
  exact ⟨_, rfl, _, _, _, [], _, [], hW', trodAll_mk1 (shut_bool Try.underlying4 _), (trodAll_cons_mk (shut_int Try.underlying2 w0) (trodAll_cons_mk (shut_int Try.underlying2 w1) (trodAll_cons_mk (Below.trod laidOut (by kernel_rfl) (of_decide_eq_true (by kernel_rfl)) k2 bel lt2) (trodAll_cons_mk (Below.trod laidOut (by kernel_rfl) (of_decide_eq_true (by kernel_rfl)) k3 bel lt3) (trodAll_cons_mk (shut_int Try.underlying2 w4) (trodAll_cons_mk (shut_string Try.underlying9 w5) trodAll_mk0)))))), rfl, bel.frame _, fun h => by cases h⟩

theorem over : Rows.fnAgainstShareModelAndMirrorRow.holds Try.pinned (OpenSpec.ofChange Rows.fnAgainstShareModelAndMirrorSpec) :=
  OpenClaim.holds_of_wide 6 Try.f6 rfl rfl rfl rfl rfl rfl rfl ⟨rfl, rfl, rfl, rfl, rfl⟩ rfl rfl rfl rfl rfl (by kernel_rfl) Try.func6 (by kernel_rfl)
    (of_decide_eq_true (by kernel_rfl)) (by unfold Func.isWrapper; first | (rw [if_pos (by decide +kernel)]; kernel_rfl) | (rw [if_neg (by decide +kernel)]; exact ⟨rfl, rfl⟩))
    (fun os started H enc _ => lifted os started H enc)

/-- THE STATEMENT -/
theorem proved : Rows.FnAgainstShareModelAndMirrorSaid := over
end Go.Proofs.Qxb6608540a.fnAgainstShareModelAndMirror
