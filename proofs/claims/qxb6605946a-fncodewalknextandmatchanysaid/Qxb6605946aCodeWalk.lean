/-
  The walk of FnCodeWalkNextAndMatchAny.
-/
import Derived.Test.Qxb6605946aCat
import Derived.Test.Qxb6605946aAny
import Derived.Deep.RegionWith
import Derived.RegionTactic
import Derived.Laws.OwnMore
import Derived.Lib.BufferRead
namespace Go.Proofs.Qxb6605946a
open Go.RowKit
set_option linter.unusedVariables false

theorem le2_snoc {zs : List Int} {k : Nat} {z : Int} (h : ∀ j, j < k → zs.getD j 0 ≤ 2) (hz : z = zs.getD k 0) (hm : z ≤ 2) : ∀ j, j < k + 1 → zs.getD j 0 ≤ 2 := by
  intro j hj
  by_cases e : j = k
  · rw [e, ← hz]; exact hm
  · exact h j (by omega)

/-- 'string(buf)'. -/
theorem buf_string {B : Nat} {w : World} {v : Value} {l : List UInt8} (h : Buf B w v l) : (convert 26 9 v).run Try.prog w = .ok (.string ⟨l.toArray⟩) w := by
  by_cases h0 : 0 < l.length
  · obtain ⟨g, cap, hv, hg, hcells⟩ := buf_shape h h0
    rw [hv]
    exact run_convert_bytes_back w 26 9 5 ⟨g, 0, none⟩ cap l Try.underlying26 Try.underlying5 Try.underlying9 hcells
  · have e : l = [] := List.eq_nil_of_length_eq_zero (by omega)
    subst e
    rcases h.2 with ⟨rfl, _⟩ | ⟨g, cap, cur, rfl, _⟩
    · exact Lib.run_convert_nil_bytes w 26 9 5 0 Try.underlying26 Try.underlying5 Try.underlying9
    · exact run_convert_bytes_back w 26 9 5 ⟨g, 0, none⟩ cap [] Try.underlying26 Try.underlying5 Try.underlying9 (fun j hj => absurd hj (Nat.not_lt_zero _))

/-- What ZZNewCode leaves: a new block that holds the code. -/
def Coded (S : ByteArray) (w w' : World) : Prop := Below w.heap.size w w' ∧ w'.heap.size = w.heap.size + 1 ∧ w'.cell? ⟨w.heap.size, 0, none⟩ = some (.string S)

set_option maxHeartbeats 1000000 in
theorem newCode_any (S : ByteArray) (w : World) :
    Calls Try.prog 13 #[.string S] w fun e w' => e = .returned (.pointer (some ⟨w.heap.size, 0, none⟩)) ∧ Coded S w w' := by
  go_enter Try.func13, Try.ntmps13
  go_wp2
  go_ret
  exact ⟨rfl, (Below.refl _ _).alloc (Nat.le_refl _) _, by simp, by simp⟩

/-- What one round of the writing loop leaves. -/
theorem code_round {zs : List Int} {ls : List ByteArray} {nt k t : Nat} {s : ByteArray} {w3 w4 w5 : World} {v5 : Value} {x' : Option Addr} {cp' : Nat} (hk : k + 1 ≤ nt) (ht : zs.getD k 0 = t) (hs : s = ls.getD k ByteArray.empty)
    (hst : w4.ownsRow w3.heap.size 3 1 (.slice (some ⟨w3.heap.size, 0, none⟩) (k + 1) (nt + 1)) (k + 1) (stCells zs ls k ++ [.int .i64 ((cat zs ls k).length : Int)]))
    (o5 : Buf (w3.heap.size + 1) w5 v5 (cat zs ls k ++ litCode t s)) (hv : v5 = .slice x' (cat zs ls k ++ litCode t s).length cp') (b5 : Below (w3.heap.size + 1) w4 w5) (hbel : Below w3.heap.size w3 w4) :
    ∃ (k_1 : Nat) (x : Option Addr) (cp : Nat), k_1 ≤ nt ∧ Value.int .i64 ((k : Int) + 1) = .int .i64 (k_1 : Int) ∧ Value.slice (some ⟨w3.heap.size, 0, none⟩) (k + 1) (nt + 1) = .slice (some ⟨w3.heap.size, 0, none⟩) k_1 (nt + 1) ∧ v5 = .slice x (cat zs ls k_1).length cp ∧
      w5.ownsRow w3.heap.size 3 1 (.slice (some ⟨w3.heap.size, 0, none⟩) k_1 (nt + 1)) k_1 (stCells zs ls k_1) ∧ Buf (w3.heap.size + 1) w5 (.slice x (cat zs ls k_1).length cp) (cat zs ls k_1) ∧ Below w3.heap.size w3 w5 := by
  have hcat : cat zs ls (k + 1) = cat zs ls k ++ litCode t s := by rw [cat, ht, ← hs, Int.toNat_natCast]
  refine ⟨k + 1, x', cp', hk, by go_num, rfl, by rw [hcat]; exact hv, ?_, ?_, hbel.trans (b5.mono (by omega))⟩
  · rw [stCells_succ]
    exact row_kept hst b5
  · rw [hcat, ← hv]
    exact o5

set_option maxHeartbeats 8000000 in
set_option maxRecDepth 10000 in
theorem code_walk (at_ al as_ : Option Addr) (nt nl ns ct cl cs : Nat) (zs : List Int) (ls ss : List ByteArray) (w : World) (hnt : nt ≤ maxLen) (hnl : nl ≤ maxLen) (hns : ns ≤ maxLen)
    (hzl : Hid (zs.length = nt)) (hll : Hid (ls.length = nl)) (hls : Hid (ss.length = ns)) (hzz : Hid (∀ j, 0 ≤ zs.getD j 0 ∧ zs.getD j 0 ≤ 255))
    (hlz : Hid (∀ s ∈ ls, s.size ≤ maxLen)) (hsz : Hid (∀ s ∈ ss, s.size ≤ maxLen)) (hz : Hid (ByteAt w at_ zs)) (hl : Hid (StrAt w al ls)) (hs : Hid (StrAt w as_ ss)) :
    Calls Try.prog 5 #[.slice at_ nt ct, .slice al nl cl, .slice as_ ns cs] w fun e w' => e = .returned (.bool true) ∧ Below w.heap.size w w' := by
  have hf := fits2_any at_ al as_ nt nl ns ct cl cs ls ss w hnt hnl hns hll hls hlz hsz hl hs
  unfold maxLen at hnt hnl hns
  go_enter Try.func5, Try.ntmps5
  go_wp2_with fail
  refine hf.mono ?_
  rintro e w' ⟨⟨ok, rfl, hok⟩, rfl⟩
  clear hf
  cases ok with
  | false =>
    clear hok
    go_wp2
    go_ret
    exact ⟨rfl, Below.refl _ _⟩
  | true =>
  obtain ⟨h1, h2, h3, hlz', hsz'⟩ := hok rfl
  have HLZ : Hid (∀ s ∈ ls, s.size ≤ 1048576) := hlz'
  have HSZ : Hid (∀ s ∈ ss, s.size ≤ 1048576) := hsz'
  clear hok hlz hsz hlz' hsz'
  by_cases hq : nt ≤ 65536 ∧ nl ≤ 65536 ∧ ns ≤ 65536
  case neg =>
    go_wp2
    all_goals go_ret
    all_goals exact ⟨rfl, Below.refl _ _⟩
  obtain ⟨q1, q2, q3⟩ := hq
  go_wp2_with fail
  refine (stringsSum_any al nl cl ls _ hll h2 HLZ hl).mono ?_
  rintro e w' ⟨⟨T1, rfl, ha0, ha1, haS⟩, rfl⟩
  have HAS : Hid (T1 ≤ 1048576 → sumTo ls nl ≤ 1048576) := haS
  clear haS
  go_wp2_with fail
  refine (stringsSum_any as_ ns cs ss _ hls h3 HSZ hs).mono ?_
  rintro e w' ⟨⟨T2, rfl, hb0, hb1, hbS⟩, rfl⟩
  clear hbS
  by_cases hT : (nt : Int) + T1 + T2 ≤ 1048576
  case neg =>
    go_wp2
    go_ret
    exact ⟨rfl, Below.refl _ _⟩
  have HSUM : Hid (sumTo ls nl ≤ 1048576) := HAS.out (by omega)
  clear HAS
  by_cases hN : nt = nl
  case neg =>
    have hN' : ((nt : Int) != (nl : Int)) = true := by simp; omega
    go_wp2
    go_ret
    exact ⟨rfl, Below.refl _ _⟩
  subst hN
  go_wp2
  go_loop [7] (fun i => ∃ k : Nat, k ≤ nt ∧ i = .int .i64 k ∧ ∀ j, j < k → zs.getD j 0 ≤ 2) (fun i => nt - (intOf i).toNat)
  case atStart => exact ⟨0, Nat.zero_le _, rfl, fun j hj => absurd hj (Nat.not_lt_zero _)⟩
  case round =>
    obtain ⟨k, hk, rfl, hall⟩ := hrel
    have HA : Hid (∀ j, j < k → zs.getD j 0 ≤ 2) := hall
    clear hall
    by_cases hlt : k < nt
    · obtain ⟨b, off, rfl, hb, hc⟩ := hz.out (by rw [hzl.out]; omega)
      obtain ⟨z, hzk⟩ : ∃ z, z = zs.getD k 0 := ⟨_, rfl⟩
      have hcx : w.cell? ⟨b, off + k, none⟩ = some (.int .u8 z) := by rw [hzk]; exact hc k (by rw [hzl.out]; exact hlt)
      have HZ : Hid (z = zs.getD k 0) := hzk
      clear hzk hc
      by_cases h2z : z ≤ 2
      · go_wp2
        go_round
        case rel => exact ⟨k + 1, by omega, by go_num, le2_snoc HA.out HZ.out h2z⟩
        case measure => simp [intOf]; omega
      · go_wp2
        go_ret
        exact ⟨rfl, Below.refl _ _⟩
    · have hkn : nt = k := by omega
      subst hkn
      go_wp2_with fail
      refine (cloneBytes_any at_ nt ct zs _ hzl.out h1 hz.out).mono ?_
      rintro e w1 ⟨at1, ct1, rfl, hz1, b1⟩
      go_wp2_with fail
      refine (cloneStrs_any al nt cl ls _ hll.out h1 (hl.out.carry b1)).mono ?_
      rintro e w2 ⟨al1, cl1, rfl, hl1, b2⟩
      have b12 : Below w.heap.size w w2 := b1.trans (b2.mono b1.size)
      go_wp2_with fail
      refine (cloneStrs_any as_ ns cs ss _ hls.out h3 (hs.out.carry b12)).mono ?_
      rintro e w3 ⟨as1, cs1, rfl, hs1, b3⟩
      have b03 : Below w.heap.size w w3 := b12.trans (b3.mono b12.size)
      have HZ1 : Hid (ByteAt w3 at1 zs) := (hz1.carry b2).carry b3
      have HL1 : Hid (StrAt w3 al1 ls) := hl1.carry b3
      have HS1 : Hid (StrAt w3 as1 ss) := hs1
      clear hz1 hl1 hs1 b1 b2 b12 b3 hz hl hs
      obtain ⟨i0, hi, hz0, hz1, hz2⟩ := info_parts Try.info3
      have h38 : Try.prog.underlying 38 = some (.slice 3) := by kernel_rfl
      have hmk := run_make (P := Try.prog) w3 38 3 i0 (.int .i64 0) h38 hi hz0 .i64 .i64 0 ((nt : Int) + 1) (by omega) (by omega) (by rw [hz2]; omega) (by omega)
      simp only [hz1, Nat.mul_one, show ((nt : Int) + 1).toNat = nt + 1 by omega] at hmk
      have hms := size_madeCells (Value.int .i64 0).cells (nt + 1)
      generalize madeCells (Value.int .i64 0).cells (nt + 1) = c0 at hmk hms
      have hst0 : (w3.alloc (.cells c0 3)).ownsRow w3.heap.size 3 1 (.slice (some ⟨w3.heap.size, 0, none⟩) 0 (nt + 1)) 0 [] := World.ownsRow_made w3 c0 (nt + 1) (Nat.le_refl _) (by unfold maxLen; omega) (by rw [hms, Nat.mul_one])
      have HST0 : Hid ((w3.alloc (.cells c0 3)).ownsRow w3.heap.size 3 1 (.slice (some ⟨w3.heap.size, 0, none⟩) 0 (nt + 1)) 0 []) := hst0
      clear hst0 hms
      go_wp2
      clear hmk
      go_loopw [8, 9, 10] (fun v8 v9 v10 wr => ∃ (k : Nat) (x : Option Addr) (cp : Nat), k ≤ nt ∧ v10 = .int .i64 k ∧ v9 = .slice (some ⟨w3.heap.size, 0, none⟩) k (nt + 1) ∧ v8 = .slice x (cat zs ls k).length cp ∧
          wr.ownsRow w3.heap.size 3 1 (.slice (some ⟨w3.heap.size, 0, none⟩) k (nt + 1)) k (stCells zs ls k) ∧ Buf (w3.heap.size + 1) wr (.slice x (cat zs ls k).length cp) (cat zs ls k) ∧ Below w3.heap.size w3 wr)
        (fun _ _ v10 _ => nt - (intOf v10).toNat)
      case atStart => exact ⟨0, none, 0, Nat.zero_le _, rfl, rfl, rfl, HST0.out, buf_nil _ _, (Below.refl _ _).alloc (Nat.le_refl _) _⟩
      case round =>
        obtain ⟨k, x, cp, hk, rfl, rfl, rfl, hst, hbuf, hbel⟩ := hrel
        have HST : Hid (wr.ownsRow w3.heap.size 3 1 (.slice (some ⟨w3.heap.size, 0, none⟩) k (nt + 1)) k (stCells zs ls k)) := hst
        have HBUF : Hid (Buf (w3.heap.size + 1) wr (.slice x (cat zs ls k).length cp) (cat zs ls k)) := hbuf
        have hcl : (cat zs ls k).length ≤ 11 * k + sumTo ls k := cat_le zs ls nt HSUM.out k hk
        have hsl := sumTo_le ls hk
        have hsl2 := HSUM.out
        clear hst hbuf
        by_cases hlt2 : k < nt
        · obtain ⟨bt, ot, rfl, hbt, hct⟩ := HZ1.out (by rw [hzl.out]; omega)
          obtain ⟨bl, ol, rfl, hbl, hcL⟩ := HL1.out (by rw [hll.out]; omega)
          obtain ⟨t, ht⟩ : ∃ t : Nat, zs.getD k 0 = t := ⟨(zs.getD k 0).toNat, by have := (hzz.out k).1; omega⟩
          have ht2 : t ≤ 2 := by have := HA.out k hlt2; omega
          obtain ⟨s, hcs, hsk, hmem⟩ := row_cell hll.out hcL k hlt2
          have hsz1 := HLZ.out s hmem
          have HT : Hid (zs.getD k 0 = t) := ht
          have HS : Hid (s = ls.getD k ByteArray.empty) := hsk
          have hcz := hct k (by rw [hzl.out]; exact hlt2)
          rw [ht] at hcz
          have HCZ : Hid (w3.cell? ⟨bt, ot + k, none⟩ = some (.int .u8 (t : Int))) := hcz
          have HCS : Hid (w3.cell? ⟨bl, ol + k, none⟩ = some (.string s)) := hcs
          have hst := HST.out
          have hg1 : w3.heap.size < wr.heap.size := (World.ownsRow.lt hst w3.heap.size rfl).2
          clear ht hsk hmem hcL hct hcz hcs
          go_wp2_with (at_builtin; refine wpList_append_fits _ rfl (.tmp 76) (.tmp 79) 38 rfl w3.heap.size 3 i0 1 h38 hi hz1 w3.heap.size k (nt + 1) (stCells zs ls k) rfl (World.ownsRow.alloc hst _) ⟨wr.heap.size, 0, none⟩ 1 1 [.int .i64 ((cat zs ls k).length : Int)] rfl rfl ?d1 ?d2 (by omega) ?_)
          case d1 =>
            intro j u hj
            match j, hj with
            | 0, hj => simp at hj; subst hj; simp [Addr.add]
          case d2 => intro u hu; simp at hu; subst hu; rfl
          intro w4 hst4 hgrow
          have hbel4 : Below w3.heap.size w3 w4 := below_kept (hbel.alloc hbel.size _) hgrow (by have := hbel.size; simp; omega)
          have hbuf4 : Buf (w3.heap.size + 1) w4 (.slice x (cat zs ls k).length cp) (cat zs ls k) := buf_kept (World.ownsRow.alloc HBUF.out _) hgrow
          have hcz4 : w4.cell? ⟨bt, ot + k, none⟩ = some (.int .u8 (t : Int)) := (hbel4.cell (p := ⟨bt, ot + k, none⟩) hbt).trans HCZ.out
          have hcs4 : w4.cell? ⟨bl, ol + k, none⟩ = some (.string s) := (hbel4.cell (p := ⟨bl, ol + k, none⟩) hbl).trans HCS.out
          have hg4 : w3.heap.size < w4.heap.size := (World.ownsRow.lt hst4 w3.heap.size rfl).2
          have HST4 : Hid (w4.ownsRow w3.heap.size 3 1 (.slice (some ⟨w3.heap.size, 0, none⟩) (k + 1) (nt + 1)) (k + 1) (stCells zs ls k ++ [.int .i64 ((cat zs ls k).length : Int)])) := hst4
          have HBUF4 : Hid (Buf (w3.heap.size + 1) w4 (.slice x (cat zs ls k).length cp) (cat zs ls k)) := hbuf4
          clear hst4 hgrow hbuf4 hst HBUF HST HCZ HCS
          have hcall := appendLit_any (w3.heap.size + 1) (.slice x (cat zs ls k).length cp) (cat zs ls k) t s w4.drew (by omega) (by exact hg4) (by have := sumTo_le ls (show k + 1 ≤ nt by omega); rw [sumTo, ← HS.out] at this; omega) (by exact HBUF4.out)
          go_wp2_with fail
          go_region_with (go_at_call 12; refine hcall.mono ?_; rintro e w5 ⟨v5, rfl, o5, b5⟩)
          all_goals go_wp2
          all_goals
            obtain ⟨x', cp', hv5⟩ := buf_slice o5
            exact ⟨code_round (t := t) (s := s) (by omega) HT.out HS.out HST4.out o5 hv5 ((Below.refl _ w4).drew.trans b5) hbel4, by simp [intOf]; omega⟩
        · have hkn : nt = k := by omega
          subst hkn
          have hst := HST.out
          have hg1 : w3.heap.size < wr.heap.size := (World.ownsRow.lt hst w3.heap.size rfl).2
          go_wp2_with (at_builtin; refine wpList_append_fits _ rfl (.tmp 91) (.tmp 94) 38 rfl w3.heap.size 3 i0 1 h38 hi hz1 w3.heap.size nt (nt + 1) (stCells zs ls nt) rfl (World.ownsRow.alloc hst _) ⟨wr.heap.size, 0, none⟩ 1 1 [.int .i64 ((cat zs ls nt).length : Int)] rfl rfl ?d3 ?d4 (by omega) ?_)
          case d3 =>
            intro j u hj
            match j, hj with
            | 0, hj => simp at hj; subst hj; simp [Addr.add]
          case d4 => intro u hu; simp at hu; subst hu; rfl
          intro w4 hst4 hgrow
          have hbel4 : Below w3.heap.size w3 w4 := below_kept (hbel.alloc hbel.size _) hgrow (by have := hbel.size; simp; omega)
          have hbuf4 : Buf (w3.heap.size + 1) w4 (.slice x (cat zs ls nt).length cp) (cat zs ls nt) := buf_kept (World.ownsRow.alloc HBUF.out _) hgrow
          have hcv := buf_string hbuf4
          have hg4 : w3.heap.size < w4.heap.size := (World.ownsRow.lt hst4 w3.heap.size rfl).2
          have hsc : ∀ j, j ≤ nt → w4.cell? ⟨w3.heap.size, j, none⟩ = some (.int .i64 ((cat zs ls j).length : Int)) := by
            intro j hj
            rw [← stCells_succ] at hst4
            rw [World.ownsRow.cellAt hst4 j (by omega)]
            exact stCells_at zs ls (nt + 1) j (by omega)
          have HSC : Hid (∀ j, j ≤ nt → w4.cell? ⟨w3.heap.size, j, none⟩ = some (.int .i64 ((cat zs ls j).length : Int))) := hsc
          have HZ4 : Hid (ByteAt w4 at1 zs) := HZ1.out.carry hbel4
          have HL4 : Hid (StrAt w4 al1 ls) := HL1.out.carry hbel4
          have HS4 : Hid (StrAt w4 as1 ss) := HS1.out.carry hbel4
          have hSz : (⟨(cat zs ls nt).toArray⟩ : ByteArray).size ≤ 16777216 := by show (cat zs ls nt).length ≤ 16777216; omega
          have HSZ6 : Hid ((⟨(cat zs ls nt).toArray⟩ : ByteArray).size ≤ 16777216) := hSz
          have HSD : Hid ((⟨(cat zs ls nt).toArray⟩ : ByteArray).data.toList = cat zs ls nt) := rfl
          have b04 : Below w.heap.size w w4 := b03.trans (hbel4.mono b03.size)
          clear hst4 hgrow hbuf4 hst HBUF HST hsc HZ1 HL1 HS1 hbel4 hbel b03 hSz hi hz0 hz1 hz2 h38
          generalize (⟨(cat zs ls nt).toArray⟩ : ByteArray) = S at hcv HSZ6 HSD
          have hz5 : w4.heap.size < w4.heap.size + 1 := by omega
          go_wp2_with (go_at_call 13; refine (newCode_any S _).mono ?_; rintro e w6 ⟨rfl, hw6⟩)
          have b46 : Below w4.heap.size w4 w6 := hw6.1
          have HCODE : Hid (w6.cell? ⟨w4.heap.size, 0, none⟩ = some (.string S)) := hw6.2.2
          have HW6 : Hid (w6.heap.size = w4.heap.size + 1) := hw6.2.1
          have HSC6 : Hid (∀ j, j ≤ nt → w6.cell? ⟨w3.heap.size, j, none⟩ = some (.int .i64 ((cat zs ls j).length : Int))) := fun j hj => (b46.cell (p := ⟨w3.heap.size, j, none⟩) hg4).trans (HSC.out j hj)
          have HZ6 : Hid (ByteAt w6 at1 zs) := HZ4.out.carry b46
          have HL6 : Hid (StrAt w6 al1 ls) := HL4.out.carry b46
          have HS6 : Hid (StrAt w6 as1 ss) := HS4.out.carry b46
          clear hw6 HSC HZ4 HL4 HS4 hcv
          go_loopw [12, 13] (fun v12 v13 wq => ∃ k : Nat, k ≤ nt ∧ v13 = .int .i64 k ∧ v12 = .int .i64 ((cat zs ls k).length : Int) ∧ Below w6.heap.size w6 wq) (fun _ v13 _ => nt - (intOf v13).toNat)
          case atStart => exact ⟨0, Nat.zero_le _, rfl, rfl, Below.refl _ _⟩
          case round =>
            obtain ⟨k, hk2, rfl, rfl, hbq⟩ := hrel
            by_cases hlt3 : k < nt
            · obtain ⟨bt, ot, rfl, hbt, hct⟩ := HZ6.out (by rw [hzl.out]; omega)
              obtain ⟨bl, ol, rfl, hbl, hcL⟩ := HL6.out (by rw [hll.out]; omega)
              obtain ⟨t, ht⟩ : ∃ t : Nat, zs.getD k 0 = t := ⟨(zs.getD k 0).toNat, by have := (hzz.out k).1; omega⟩
              have ht2 : t ≤ 2 := by have := HA.out k hlt3; omega
              obtain ⟨s, hcs, hsk, hmem⟩ := row_cell hll.out hcL k hlt3
              have hsz1 := HLZ.out s hmem
              have hcz := hct k (by rw [hzl.out]; exact hlt3)
              rw [ht] at hcz
              obtain ⟨r, hr⟩ := cat_drop zs ls k nt hlt3
              have hL1 := cat_succ_length zs ls k
              rw [ht, ← hsk, Int.toNat_natCast] at hr
              rw [← hsk] at hL1
              have hs1 := HSC6.out k (by omega)
              have hs2 := HSC6.out (k + 1) (by omega)
              have hx1 := cat_le zs ls nt HSUM.out k hk2
              have hx2 := sumTo_le ls hk2
              obtain ⟨L0, hL0⟩ : ∃ L0, L0 = (cat zs ls k).length := ⟨_, rfl⟩
              obtain ⟨L1, hL1e⟩ : ∃ L1, L1 = (cat zs ls (k + 1)).length := ⟨_, rfl⟩
              rw [← hL0] at hr hs1 hL1 hx1 ⊢
              rw [← hL1e] at hs2 hL1
              have H1 : Hid (L1 = (cat zs ls (k + 1)).length) := hL1e
              have hg6 : w4.heap.size < w6.heap.size := by rw [HW6.out]; omega
              have hg3 : w3.heap.size < w6.heap.size := by rw [HW6.out]; omega
              have hcode := (hbq.cell (p := ⟨w4.heap.size, 0, none⟩) hg6).trans HCODE.out
              have hq1 := (hbq.cell (p := ⟨w3.heap.size, k, none⟩) hg3).trans hs1
              have hq2 := (hbq.cell (p := ⟨w3.heap.size, k + 1, none⟩) hg3).trans hs2
              have hq3 := (hbq.cell (p := ⟨bt, ot + k, none⟩) hbt).trans hcz
              have hq4 := (hbq.cell (p := ⟨bl, ol + k, none⟩) hbl).trans hcs
              have hd : S.data.toList.drop L0 = t.toUInt8 :: (Lib.uvarint s.size ++ (s.data.toList ++ r)) := by rw [HSD.out]; exact hr
              have hrow := (HS6.out.carry hbq).row cs1
              rw [hls.out] at hrow
              have hnext : Calls Try.prog 17 #[.pointer (some ⟨w4.heap.size, 0, none⟩), .int .i64 (L0 : Int)] wr fun e w' => e = .returned (.int .i64 (L1 : Int)) ∧ wr = w' := by
                rw [hL1]; exact next_any S L0 t s.size w4.heap.size _ wr HSZ6.out ht2 (by omega) hcode hd
              have hmany : Calls Try.prog 14 #[.pointer (some ⟨w4.heap.size, 0, none⟩), .int .i64 (L0 : Int), .slice as1 ns cs1] wr fun e w' => e = .returned (.tuple #[.bool (anyB s t ss), .int .i64 (L1 : Int)]) ∧ Below wr.heap.size wr w' := by
                rw [hL1]; exact matchAny_any S s L0 t w4.heap.size r _ ss wr HSZ6.out ht2 hsz1 (by rw [hls.out]; omega) HSZ.out (Nat.lt_of_lt_of_le hg6 hbq.size) hcode hrow hd
              have hb1 : L1 ≤ 16777216 := by have := uv_short (x := s.size) hsz1; have := HSUM.out; omega
              clear hct hcL ht hcs hsk hmem hcz hr hs1 hs2 hL1e hL1 hd hcode hL0
              have HROW : Hid (StrRow wr (.slice as1 ns cs1) ss) := hrow
              clear hrow
              obtain ⟨B, hB⟩ : ∃ B, B = anyB s t ss := ⟨_, rfl⟩
              have HB : Hid (B = anyB s t ss) := hB
              rw [← hB] at hmany
              clear hB
              have hgr6 : w3.heap.size < wr.heap.size := Nat.lt_of_lt_of_le hg3 hbq.size
              have hbtr : bt < wr.heap.size := Nat.lt_of_lt_of_le hbt hbq.size
              have hblr : bl < wr.heap.size := Nat.lt_of_lt_of_le hbl hbq.size
              go_wp2_with (go_at_call 17; refine hnext.mono ?_; rintro e w' ⟨rfl, rfl⟩)
              refine hmany.mono ?_
              rintro e w7 ⟨rfl, b7⟩
              have hp2 := (b7.cell (p := ⟨w3.heap.size, k + 1, none⟩) hgr6).trans hq2
              have hp3 := (b7.cell (p := ⟨bt, ot + k, none⟩) hbtr).trans hq3
              have hp4 := (b7.cell (p := ⟨bl, ol + k, none⟩) hblr).trans hq4
              have hcall := anyMatches_any s t (.slice as1 ns cs1) ss w7.drew hsz1 ht2 (by rw [hls.out]; omega) HSZ.out ((HROW.out.carry b7).carry (Below.refl _ _).drew)
              rw [← HB.out] at hcall
              clear hq1 hq2 hq3 hq4 hnext hmany
              go_wp2_with fail
              go_region_with (go_at_call 15; refine hcall.mono ?_; rintro e w8 ⟨rfl, b8⟩)
              all_goals go_wp2
              all_goals
                refine ⟨⟨k + 1, by omega, by go_num, by rw [← H1.out], ?_⟩, by simp [intOf]; omega⟩
                exact hbq.trans (((b7.trans ((Below.refl _ w7).drew.trans (b8.mono b7.size)))).mono hbq.size)
            · have hkn : nt = k := by omega
              subst hkn
              go_wp2
              go_ret
              refine ⟨rfl, b04.trans ((b46.trans (hbq.mono (by rw [HW6.out]; omega))).mono b04.size)⟩
end Go.Proofs.Qxb6605946a
