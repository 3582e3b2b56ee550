/-
  THE STORER's SMALL METHODS: flag.
-/
import Derived.Test.Qxb6618929aMeth3
namespace Go.Proofs.Qxb6618929a
open Go Go.RowKit

theorem grown_drew {w w' : World} {r : Option Nat} (h : w.drew.grownBy w' r) : w.grownBy w' r := ⟨h.os, h.tape, h.output, h.size, h.block⟩

set_option maxHeartbeats 4000000 in
theorem s_flag (s : Nat) (R : Nat → Prop) (st : St) (bv sv : Value) (p : Addr) (b : Bool) (w : World) (h : Sto w s R st bv sv) (hlim : st.1.length + 10 ≤ 140737488355328)
    (hc : w.cell? p = some (.bool b)) : Calls Try.prog 59 #[.pointer (some ⟨s, 0, none⟩), .pointer (some p)] w fun e w' => Step s R w (putB (bitB b 1) st) e w' := by
  obtain ⟨i0, hi, hz0, hz1, hz2⟩ := info_parts Try.info5
  have hcb : w.cell? ⟨s, 0, none⟩ = some bv := by simpa using cell_of_row w s 0 #[bv, sv] 72 (0, 0) h.box
  have CB := hd (bit67k b 1 1 rfl w.drew)
  generalize bitB b 1 = z at CB ⊢
  have HS := hd h
  have HOW := hd ((h.alloc (.cells #[.int .u8 z.toNat] 5)).drew.bytes)
  have hcA : (w.alloc (.cells #[.int .u8 z.toNat] 5)).cell? ⟨s, 0, none⟩ = some bv := by simpa using cell_of_row _ s 0 #[bv, sv] 72 (0, 0) (h.alloc (.cells #[.int .u8 z.toNat] 5)).box
  rcases h.bytes.2 with ⟨hb, hz⟩ | ⟨g, cap, cur, hb, hz⟩
  all_goals
    clear hz h
    rw [hb] at hcb HS HOW hcA
    go_enter Try.func59, Try.ntmps59
    go_region_law? (first
      | (go_simp; go_at_call 67; refine CB.out.mono ?_; rintro e w' ⟨rfl, hw⟩; obtain rfl := hw)
      | (refine step_append_lies _ rfl _ _ 36 rfl 0 5 i0 (.int .u8 0) 1 1 Try.underlying36 hi hz0 hz1 hz2 rfl (by decide) _ _ _ rfl HOW.out ⟨w.heap.size, 0, none⟩ 1 1 [Value.int .u8 z.toNat] rfl rfl ?c1 ?c2 (by decide) ?c3 ?c4 (Nat.zero_le _) (w.heap.size + 1) ?c5 ?_; (case c1 => (intro j u hj; match j, hj with | 0, hj => (simp at hj; subst hj; simp [Addr.add]))); (case c2 => (intro u hu; simp at hu; subst hu; rfl)); (case c3 => (unfold maxLen; omega)); (case c4 => omega); (case c5 => simp); intro g1 cap1 w1 hown1 hgrow1 hat1 hlt1; obtain ⟨q1, q2, q3⟩ := put_one (w := w) (z := z) (o := .cells #[.int .u8 z.toNat] 5) rfl rfl hown1 (grown_drew hgrow1) hat1 rfl; obtain ⟨hs1, hst, hfr⟩ := HS.out.put q1 q2 q3; have hc1 := cell_of_row w1 s 0 _ 72 (0, 0) hs1; have hf1 := frozen_of_row w1 s 0 _ 72 hs1; have HR := hd (And.intro hst hfr); clear hown1 hgrow1 hat1 q1 q2 q3 hs1 hst hfr))
    all_goals
      go_end0
      exact ⟨rfl, ⟨_, _, HR.out.1⟩, HR.out.2⟩
end Go.Proofs.Qxb6618929a
