/-
  storer.string: a string that is new.
-/
import Derived.Test.Qxb6618929aStr
namespace Go.Proofs.Qxb6618929a
open Go Go.RowKit

theorem own_slice {w : World} {e n : Nat} {v : Value} {xs : List Value} (h : w.ownsRow 0 e 1 v n xs) : ∃ ao cap, v = .slice ao n cap := by
  rcases h.2 with ⟨hb, rfl⟩ | ⟨g, cap, cur, hb, hz⟩
  · exact ⟨none, 0, hb⟩
  · exact ⟨_, cap, hb⟩

theorem wrap64 (n : Nat) (h : n ≤ 140737488355328) : IntKind.u64.wrap (n : Int) = n := by
  simp [IntKind.wrap, IntKind.bits, IntKind.signed]
  omega

set_option maxRecDepth 100000 in
set_option maxHeartbeats 4000000 in
/-- The string is new. -/
theorem s_string_new (s : Nat) (R : Nat → Prop) (st : St) (bv sv : Value) (p : Addr) (t : List UInt8) (w : World) (h : Sto w s R st bv sv) (hlim : st.1.length + 20 + t.length ≤ 140737488355328) (hn : st.2.length ≤ 1073741824)
    (hc : w.cell? p = some (encS t)) (hw : whereIs st.2 t = -1) :
    Calls Try.prog 64 #[.pointer (some ⟨s, 0, none⟩), .pointer (some p)] w fun e w' => Step s R w (st.1 ++ Lib.uvarint st.2.length ++ Lib.uvarint t.length ++ t, st.2 ++ [t]) e w' := by
  obtain ⟨stZ, HZ⟩ : ∃ stZ, Hid ((st.1 ++ Lib.uvarint st.2.length ++ Lib.uvarint t.length ++ t, st.2 ++ [t]) = stZ) := ⟨_, rfl⟩
  rw [HZ.out]
  obtain ⟨i0, hi, hz0, hz1, hz2⟩ := info_parts Try.info5
  obtain ⟨i9, hi9, hy0, hy1, hy2⟩ := info_parts Try.info9
  have hcb : w.cell? ⟨s, 0, none⟩ = some bv := by simpa using cell_of_row w s 0 #[bv, sv] 72 (0, 0) h.box
  have hcs : w.cell? ⟨s, 1, none⟩ = some sv := by simpa using cell_of_row w s 1 #[bv, sv] 72 (0, 0) h.box
  have CI := hd (index69 sv st.2 t w h.strs (by omega))
  rw [hw] at CI
  have HV := hd (appendUvarint 0 st.1.length st.2.length (by omega) bv _ w.drew h.drew.bytes (Nat.zero_le _) (by omega))
  rw [← wrap64 st.2.length (by omega)] at HV
  have hl := uvarint_pos st.2.length
  have hl2 := Lib.uvarint_length64 (x := st.2.length) (by omega)
  have hl3 := uvarint_pos t.length
  have hl4 := Lib.uvarint_length64 (x := t.length) (by omega)
  have HS := hd h
  obtain ⟨ab, cb, rfl⟩ := own_slice h.bytes
  obtain ⟨az, cz, rfl⟩ := own_slice h.strs
  have h0c := hc
  clear h hw
  unfold encS at hc CI
  go_enter Try.func64, Try.ntmps64
  go_wp2_with (go_at_call 69; refine CI.out.mono ?_; rintro e w' ⟨rfl, hw⟩; obtain rfl := hw.symm)
  go_region_with (go_at_call 70; refine HV.out.mono ?_; rintro e w1 ⟨v1, rfl, ho, hg, hm⟩; obtain ⟨g1, cap1, hv, hq1, hq2⟩ := ho.form (by omega); clear hq1 hq2; obtain ⟨hs1, hst, hfr⟩ := HS.out.put ho (grown_drew hg) hm; have hc1 := cell_of_row w1 s 0 _ 72 (0, 0) hs1; have hf1 := frozen_of_row w1 s 0 _ 72 hs1; have HR := hd (And.intro hst hfr); clear ho hg hm hs1 hst hfr; subst hv)
  all_goals
    generalize w1.setCell ⟨s, 0, none⟩ (.slice (some ⟨g1, 0, none⟩) (st.1.length + (Lib.uvarint st.2.length).length) cap1) = W2 at HR ⊢
    obtain ⟨st2, HE2⟩ : ∃ st2 : St, Hid ((st.1 ++ Lib.uvarint st.2.length, st.2) = st2) := ⟨_, rfl⟩
    have hl5 : st2.1.length ≤ st.1.length + 10 := by rw [← HE2.out, List.length_append]; omega
    have hl6 : st2.2.length ≤ 1073741824 := by rw [← HE2.out]; exact hn
    rw [HE2.out] at HR
    have hcb2 : W2.cell? ⟨s, 0, none⟩ = some _ := cell_of_row W2 s 0 _ 72 (0, 0) HR.out.1.box
    have hcs2 : W2.cell? ⟨s, 1, none⟩ = some _ := cell_of_row W2 s 1 _ 72 (0, 0) HR.out.1.box
    have HV2 := hd (appendUvarint 0 _ t.length (by omega) _ _ W2 HR.out.1.bytes (Nat.zero_le _) (by omega))
    have HS2 := hd HR.out.1
    have HF2 := hd HR.out.2
    clear HR hc1 hf1 HV CI HS
    go_wp2_with (first
      | (at_builtin; (refine wpList_append_lies _ rfl _ _ 22 rfl 0 9 i9 (.string ⟨#[]⟩) 1 16 Try.underlying22 hi9 hy0 hy1 hy2 rfl (by decide) _ _ _ rfl HOW5.out ⟨w4.heap.size, 0, none⟩ 1 1 [Value.string ⟨t.toArray⟩] rfl rfl ?c1 ?c2 (by decide) ?c3 ?c4 (Nat.zero_le _) (w4.heap.size + 1) ?c5 ?_; (case c1 => (rw [← HSZ.out]; exact cell_one_new _ _ _)); (case c2 => (intro u hu; simp at hu; subst hu; rfl)); (case c3 => (unfold maxLen; simp only; omega)); (case c4 => (simp only; omega)); (case c5 => (rw [← HSZ.out]; simp)); intro g5 cap5 w5 hown5 hgrow5 hat5 hlt5; obtain ⟨q1, q2⟩ := put_oneS rfl rfl hgrow5 hat5 (by rw [HSZ.out]); obtain ⟨hs5, hst5, hfr5⟩ := HS4.out.putS hown5 q1 q2; have hc5 := cell_of_row w5 s 1 _ 72 (0, 0) hs5; have hf5 := frozen_of_row w5 s 1 _ 72 hs5; have HR5 := hd (And.intro hst5 hfr5); clear hown5 hgrow5 hat5 q1 q2 hs5 hst5 hfr5))
      | (at_builtin; (refine wpList_append_str_at _ rfl _ _ 36 9 rfl 0 5 i0 Try.underlying36 Try.underlying9 hi hz0 hz1 hz2 _ _ _ rfl HS3.out.bytes ⟨t.toArray⟩ rfl ?b1 (Nat.zero_le _) ?_; (case b1 => (simp only [ByteArray.size, List.size_toArray]; omega)); intro v4 w4 ho4 hg4 hm4; rw [strCells_enc, show (⟨t.toArray⟩ : ByteArray).size = t.length from rfl] at ho4; obtain ⟨a4, c4, hv4⟩ := own_slice ho4; obtain ⟨hs4, hst4, hfr4⟩ := HS3.out.put (c := t) ho4 hg4 hm4; have hc4 := cell_of_row w4 s 0 _ 72 (0, 0) hs4; have hd4 := cell_of_row w4 s 1 _ 72 (0, 0) hs4; have hf4 := frozen_of_row w4 s 0 _ 72 hs4; have HOW5 := hd ((hst4.alloc (.cells #[.string ⟨t.toArray⟩] 9)).strs); have HS4 := hd hst4; have HSZ : Hid ((w4.setCell ⟨s, 0, none⟩ v4).heap.size = w4.heap.size) := (by show _ = _; simp [World.setCell]); have HF4 := hd hfr4; clear ho4 hg4 hm4 hs4 hst4 hfr4; subst hv4))
      | (go_at_call 70; refine HV2.out.mono ?_; rintro e w3 ⟨v3, rfl, ho, hg, hm⟩; obtain ⟨g3, cap3, hv, hq1, hq2⟩ := ho.form (by omega); clear hq1 hq2; obtain ⟨hs3, hst3, hfr3⟩ := HS2.out.put ho hg hm; obtain ⟨st3, HE3⟩ : ∃ st3 : St, Hid ((st2.1 ++ Lib.uvarint t.length, st2.2) = st3) := ⟨_, rfl⟩; have hl7 : st3.1.length ≤ st2.1.length + 10 := (by rw [← HE3.out, List.length_append]; omega); have hl8 : st3.2.length ≤ 1073741824 := (by rw [← HE3.out]; exact hl6); rw [HE3.out] at hst3; have hc3 := cell_of_row w3 s 0 _ 72 (0, 0) hs3; have hd3 := cell_of_row w3 s 1 _ 72 (0, 0) hs3; have hf3 := frozen_of_row w3 s 0 _ 72 hs3; have HS3 := hd hst3; have HF3 := hd hfr3; clear ho hg hm hs3 hst3 hfr3; subst hv))
    go_end0
    have HEQ : stZ = (st3.1 ++ t, st3.2 ++ [t]) := by rw [← HZ.out, ← HE3.out, ← HE2.out]
    rw [HEQ]
    exact ⟨rfl, ⟨_, _, HR5.out.1⟩, ((HF2.out.trans HF3.out).trans HF4.out).trans HR5.out.2⟩

theorem s_string (s : Nat) (R : Nat → Prop) (st : St) (bv sv : Value) (p : Addr) (t : List UInt8) (w : World) (h : Sto w s R st bv sv) (hlim : st.1.length + 20 + t.length ≤ 140737488355328) (hn : st.2.length ≤ 1073741824)
    (hc : w.cell? p = some (encS t)) : Calls Try.prog 64 #[.pointer (some ⟨s, 0, none⟩), .pointer (some p)] w fun e w' => Step s R w (putStr t st) e w' := by
  rcases putStr_of (ts := st.2) (t := t) st.1 with ⟨i, h1, h2, h3⟩ | ⟨h2, h3⟩
  · rw [show putStr t st = _ from h3]
    exact s_string_known s R st bv sv p t i w h (by omega) hn hc h1 h2
  · rw [show putStr t st = _ from h3]
    exact s_string_new s R st bv sv p t w h hlim hn hc h2
end Go.Proofs.Qxb6618929a
