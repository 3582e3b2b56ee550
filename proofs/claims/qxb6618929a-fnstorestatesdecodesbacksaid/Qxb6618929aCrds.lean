/-
  storer.cards.
-/
import Derived.Test.Qxb6618929aMem
namespace Go.Proofs.Qxb6618929a
open Go Go.RowKit

attribute [local go_sem] qz77 qs77

theorem Step.ofDrew {s : Nat} {R : Nat → Prop} {w : World} {st : St} {e : Ending} {w' : World} (h : Step s R w.drew st e w') : Step s R w st e w' := ⟨h.1, h.2.1, h.2.2.os, h.2.2.tape, h.2.2.output, h.2.2.size, h.2.2.block⟩

theorem putLen_len (n : Option Nat) (st : St) (hn : ∀ k, n = some k → k ≤ 9223372036854775807) : 1 ≤ (putLen n st).1.length ∧ (putLen n st).1.length ≤ st.1.length + 10 := by
  cases n with
  | none => simp [putLen, putB]
  | some k =>
    have h1 := uvarint_pos (k + 1)
    have h2 := Lib.uvarint_length64 (x := k + 1) (by have := hn k rfl; omega)
    simp [putLen, putU]
    omega

theorem take_snoc {cs : List UInt8} {k : Nat} (hk : k < cs.length) : cs.take (k + 1) = cs.take k ++ [cs.getD k 0] := by
  rw [List.take_succ_eq_append_getElem hk]
  simp [List.getD, hk]

set_option maxHeartbeats 4000000 in
set_option maxRecDepth 100000 in
theorem s_cards_none (s : Nat) (R : Nat → Prop) (st : St) (bv sv : Value) (p : Addr) (w : World) (h : Sto w s R st bv sv) (hlim : st.1.length + 10 ≤ 140737488355328)
    (hp : R p.block) (hc : w.cell? p = some (.slice none 0 0)) : Calls Try.prog 58 #[.pointer (some ⟨s, 0, none⟩), .pointer (some p)] w fun e w' => Step s R w (putCards none st) e w' := by
  have C := hd ((s_length_nil s R st bv sv 0 w.drew h.drew hlim).mono fun e w' h => h.ofDrew)
  clear h
  go_enter Try.func58, Try.ntmps58
  go_wp2_with fail
  go_region_with (go_at_call 66; refine C.out.mono ?_; rintro e w' ⟨rfl, h1, h2⟩; have hpc := (h2.cell hp).trans hc; have HR := hd (And.intro h1 h2); clear h1 h2)
  all_goals
    go_wp2
    go_loop [5, 20] (fun _ i => i = .int .i64 0) (fun _ _ => 0)
    case atStart => rfl
    case round =>
      subst hrel
      go_wp2
      go_end0
      exact ⟨rfl, HR.out.1, HR.out.2⟩

set_option maxHeartbeats 4000000 in
set_option maxRecDepth 100000 in
theorem s_cards_some (s : Nat) (R : Nat → Prop) (st : St) (bv sv : Value) (p a : Addr) (cap : Nat) (cs : List UInt8) (w : World) (h : Sto w s R st bv sv) (hl : cs.length ≤ 140737488355328) (hlim : st.1.length + 10 + cs.length ≤ 140737488355328)
    (hp : R p.block) (hc : w.cell? p = some (.slice (some a) cs.length cap)) (hcs : cs.length ≤ 0 ∨ ∃ b off, a = ⟨b, off, none⟩ ∧ R b ∧ ∀ j, j < cs.length → w.cell? ⟨b, off + j, none⟩ = some (.int .u8 (cs.getD j 0).toNat)) :
    Calls Try.prog 58 #[.pointer (some ⟨s, 0, none⟩), .pointer (some p)] w fun e w' => Step s R w (putCards (some cs) st) e w' := by
  obtain ⟨i0, hi, hz0, hz1, hz2⟩ := info_parts Try.info5
  have C := hd ((s_length_some s R st bv sv cs.length (by omega) w.drew h.drew (by omega)).mono fun e w' h => h.ofDrew)
  have HP := putLen_len (some cs.length) st (fun k hk => by have := Option.some.inj hk; omega)
  have e2 : (putLen (some cs.length) st).2 = st.2 := rfl
  have HE : Hid (putCards (some cs) st = ((putLen (some cs.length) st).1 ++ cs, (putLen (some cs.length) st).2)) := rfl
  rw [HE.out]
  clear h
  generalize putLen (some cs.length) st = st1 at C HP e2 ⊢
  clear e2
  have key : cs.length ≤ 0 ∨ (0 < cs.length ∧ ∃ b off, a = ⟨b, off, none⟩ ∧ R b ∧ Hid (∀ j, j < cs.length → w.cell? ⟨b, off + j, none⟩ = some (.int .u8 (cs.getD j 0).toNat))) := by
    by_cases h0 : 0 < cs.length
    · rcases hcs with h1 | h1
      · omega
      · exact .inr ⟨h0, h1⟩
    · exact .inl (by omega)
  clear hcs
  rcases key with h0 | ⟨h0, b, off, rfl, hb, HC⟩
  · have HCE : Hid (st1.1 ++ cs = st1.1) := by
      have : cs = [] := List.eq_nil_of_length_eq_zero (by omega)
      show st1.1 ++ cs = st1.1
      rw [this, List.append_nil]
    rw [HCE.out]
    go_enter Try.func58, Try.ntmps58
    go_wp2_with fail
    go_region_with (go_at_call 66; refine C.out.mono ?_; rintro e w' ⟨rfl, h1, h2⟩; have hpc := (h2.cell hp).trans hc; have HR := hd (And.intro h1 h2); clear h1 h2)
    all_goals
      go_wp2
      go_loop [5, 20] (fun _ i => i = .int .i64 0) (fun _ _ => 0)
      case atStart => rfl
      case round =>
        subst hrel
        go_wp2
        go_end0
        exact ⟨rfl, HR.out.1, HR.out.2⟩
  · go_enter Try.func58, Try.ntmps58
    go_wp2_with fail
    go_region_with (go_at_call 66; refine C.out.mono ?_; rintro e w' ⟨rfl, h1, h2⟩; have hpc := (h2.cell hp).trans hc; have HR := hd (And.intro h1 h2); clear h1 h2)
    all_goals
      go_wp2
      go_loopw [5, 20] (fun _ i wr => ∃ (k : Nat), k ≤ cs.length ∧ i = .int .i64 k ∧ (∃ bv sv, Sto wr s R (st1.1 ++ cs.take k, st1.2) bv sv) ∧ Fr R w wr) (fun _ i _ => cs.length - (intOf i).toNat)
      case atStart => exact ⟨0, Nat.zero_le _, rfl, by simpa using HR.out.1, HR.out.2⟩
      case round =>
        obtain ⟨k, hk, rfl, ⟨bv1, sv1, hS⟩, hF⟩ := hrel
        by_cases hlt : k < cs.length
        · have hck := (hF.cell (p := ⟨b, off + k, none⟩) hb).trans (HC.out k hlt)
          obtain ⟨z, HZ⟩ : ∃ z, Hid (cs.getD k 0 = z) := ⟨_, rfl⟩
          rw [HZ.out] at hck
          have hlen : (st1.1 ++ cs.take k).length ≤ st.1.length + 10 + k := by simp; omega
          obtain ⟨g1, cap1, hbv, _, _⟩ := hS.bytes.form (by simp; omega)
          subst hbv
          have hcb : wr.cell? ⟨s, 0, none⟩ = some (.slice (some ⟨g1, 0, none⟩) (st1.1 ++ cs.take k).length cap1) := by simpa using cell_of_row wr s 0 _ 72 (0, 0) hS.box
          have HOW := hd (hS.bytes.alloc (.cells #[.int .u8 z.toNat] 5))
          have HS := hd hS
          have HF := hd hF
          have HTK : Hid (st1.1 ++ cs.take (k + 1) = st1.1 ++ cs.take k ++ [z]) := by
            show _ = _
            rw [take_snoc hlt, HZ.out, List.append_assoc]
          generalize st1.1 ++ cs.take k = pre at hS HOW HS HTK hcb hlen
          clear hS hF
          go_wp2_with (at_builtin; refine wpList_append_lies _ rfl _ _ 36 rfl 0 5 i0 (.int .u8 0) 1 1 Try.underlying36 hi hz0 hz1 hz2 rfl (by decide) _ _ _ rfl HOW.out ⟨wr.heap.size, 0, none⟩ 1 1 [Value.int .u8 z.toNat] rfl rfl ?c1 ?c2 (by decide) ?c3 ?c4 (Nat.zero_le _) (wr.heap.size + 1) ?c5 ?_; (case c1 => (intro j u hj; match j, hj with | 0, hj => (simp at hj; subst hj; simp [Addr.add]))); (case c2 => (intro u hu; simp at hu; subst hu; rfl)); (case c3 => (unfold maxLen; simp only; omega)); (case c4 => (simp only; omega)); (case c5 => simp); intro g2 cap2 w1 hown1 hgrow1 hat1 hlt1; obtain ⟨q1, q2, q3⟩ := put_one (st := (pre, st1.2)) (z := z) rfl rfl hown1 hgrow1 hat1 rfl; obtain ⟨hs1, hst, hfr⟩ := HS.out.put q1 q2 q3; have hc1 := cell_of_row w1 s 0 _ 72 (0, 0) hs1; have hf1 := frozen_of_row w1 s 0 _ 72 hs1; have HR2 := hd (And.intro hst hfr); clear hown1 hgrow1 hat1 q1 q2 q3 hs1 hst hfr)
          go_roundw
          case rel => exact ⟨k + 1, by omega, by go_num, ⟨_, _, HTK.out ▸ HR2.out.1⟩, HF.out.trans HR2.out.2⟩
          case measure => simp [intOf]; omega
        · have HTK : Hid (st1.1 ++ cs.take k = st1.1 ++ cs) := by
            show _ = _
            rw [List.take_of_length_le (by omega)]
          rw [HTK.out] at hS
          have HS := hd hS
          clear hS
          go_wp2
          go_end0
          exact ⟨rfl, ⟨_, _, HS.out⟩, hF⟩
end Go.Proofs.Qxb6618929a
