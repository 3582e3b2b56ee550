/-
  THE STORER's SMALL METHODS: length.
-/
import Derived.Test.Qxb6618929aMeth
namespace Go.Proofs.Qxb6618929a
open Go Go.RowKit

/-- One byte is appended by the builtin: what it gives, as Sto.put asks it. -/
theorem put_one {w wb w1 : World} {st : St} {bv v : Value} {g cap H : Nat} {z : UInt8} {o : Obj} (hwb : wb = w.alloc o) (hv : v = .slice (some ⟨g, 0, none⟩) (st.1.length + 1) cap)
    (hown : w1.ownsRow 0 5 1 v (st.1.length + 1) (Lib.byteCells st.1 ++ [Value.int .u8 z.toNat])) (hgrow : wb.grownBy w1 bv.ownBlock) (hat : bv.ownBlock = some g ∨ g = H) (hH : H = w.heap.size + 1) :
    w1.ownsRow 0 5 1 v (st.1.length + [z].length) (Lib.byteCells st.1 ++ Lib.byteCells [z]) ∧ w.grownBy w1 bv.ownBlock ∧ Moved w bv v := by
  subst hwb; subst hH; subst hv
  refine ⟨by simpa [Lib.byteCells] using hown, ?_, ?_⟩
  · exact ⟨hgrow.os, hgrow.tape, hgrow.output, by have := hgrow.size; simp at this; omega, fun k hk hne => (hgrow.block k (by simp; omega) hne).trans (Below.heap_alloc w o k hk)⟩
  · rcases hat with h | h
    · left; rw [h]; rfl
    · right; intro k hk; simp [Value.ownBlock] at hk; omega

theorem s_length_nil (s : Nat) (R : Nat → Prop) (st : St) (bv sv : Value) (n : Int) (w : World) (h : Sto w s R st bv sv) (hlim : st.1.length + 10 ≤ 140737488355328) :
    Calls Try.prog 66 #[.pointer (some ⟨s, 0, none⟩), .bool true, .int .i64 n] w fun e w' => Step s R w (putLen none st) e w' := by
  obtain ⟨i0, hi, hz0, hz1, hz2⟩ := info_parts Try.info5
  have hc : w.cell? ⟨s, 0, none⟩ = some bv := by simpa using cell_of_row w s 0 #[bv, sv] 72 (0, 0) h.box
  have HS := hd h
  have HOW := hd (h.bytes.alloc (.cells #[.int .u8 0] 5))
  rcases h.bytes.2 with ⟨hb, hz⟩ | ⟨g, cap, cur, hb, hz⟩
  all_goals
    clear hz h
    rw [hb] at hc HS HOW
    go_enter Try.func66, Try.ntmps66
    go_wp2_with (at_builtin; refine wpList_append_lies _ rfl _ _ 36 rfl 0 5 i0 (.int .u8 0) 1 1 Try.underlying36 hi hz0 hz1 hz2 rfl (by decide) _ _ _ rfl HOW.out ⟨w.heap.size, 0, none⟩ 1 1 [Value.int .u8 0] rfl rfl ?c1 ?c2 (by decide) ?c3 ?c4 (Nat.zero_le _) (w.heap.size + 1) ?c5 ?_; (case c1 => (intro j u hj; match j, hj with | 0, hj => (simp at hj; subst hj; simp [Addr.add]))); (case c2 => (intro u hu; simp at hu; subst hu; rfl)); (case c3 => (unfold maxLen; omega)); (case c4 => omega); (case c5 => simp); intro g1 cap1 w1 hown1 hgrow1 hat1 hlt1; obtain ⟨q1, q2, q3⟩ := put_one (z := 0) rfl rfl hown1 hgrow1 hat1 rfl; obtain ⟨hs1, hst, hfr⟩ := HS.out.put q1 q2 q3; have hc1 := cell_of_row w1 s 0 _ 72 (0, 0) hs1; have hf1 := frozen_of_row w1 s 0 _ 72 hs1; have HR := hd (And.intro hst hfr); clear hown1 hgrow1 hat1 q1 q2 q3 hs1 hst hfr)
    refine bodyPost_ret (v := .tuple #[]) (by simp [results, Try.f66]) rfl ?_
    exact ⟨rfl, ⟨_, _, HR.out.1⟩, HR.out.2⟩
theorem s_length_some (s : Nat) (R : Nat → Prop) (st : St) (bv sv : Value) (n : Nat) (hn : n ≤ 9223372036854775807) (w : World) (h : Sto w s R st bv sv) (hlim : st.1.length + 10 ≤ 140737488355328) :
    Calls Try.prog 66 #[.pointer (some ⟨s, 0, none⟩), .bool false, .int .i64 n] w fun e w' => Step s R w (putLen (some n) st) e w' := by
  have hc : w.cell? ⟨s, 0, none⟩ = some bv := by simpa using cell_of_row w s 0 #[bv, sv] 72 (0, 0) h.box
  have hV := appendUvarint 0 st.1.length (n + 1) (by omega) bv _ w h.bytes (Nat.zero_le _) hlim
  have hl := uvarint_pos (n + 1)
  have hcast : ((n + 1 : Nat) : Int) = (n : Int) + 1 := by omega
  rw [hcast] at hV
  have HS := hd h
  have HV := hd hV
  clear hV hcast
  rcases h.bytes.2 with ⟨hb, hz⟩ | ⟨g, cap, cur, hb, hz⟩
  all_goals
    clear hz h
    rw [hb] at HV hc HS
    go_enter Try.func66, Try.ntmps66
    go_wp2_with (go_at_call 70; refine HV.out.mono ?_; rintro e w1 ⟨v', rfl, ho, hg, hm⟩; obtain ⟨g', cap', hv, hq1, hq2⟩ := ho.form (by omega); clear hq1 hq2; obtain ⟨hs1, hst, hfr⟩ := HS.out.put ho hg hm; have hc1 := cell_of_row w1 s 0 _ 72 (0, 0) hs1; have hf1 := frozen_of_row w1 s 0 _ 72 hs1; have HR := hd (And.intro hst hfr); clear ho hg hm hs1 hst hfr; subst hv)
    go_end0
    exact ⟨rfl, ⟨_, _, HR.out.1⟩, HR.out.2⟩
end Go.Proofs.Qxb6618929a
