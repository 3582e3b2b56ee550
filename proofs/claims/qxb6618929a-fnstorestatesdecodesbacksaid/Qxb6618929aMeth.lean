/-
  THE STORER's SMALL METHODS.
-/
import Derived.Test.Qxb6618929aSto
namespace Go.Proofs.Qxb6618929a
open Go Go.RowKit

/-- A step of the storer: from st to st2, in the frame. -/
def Step (s : Nat) (R : Nat → Prop) (w : World) (st : St) (e : Ending) (w' : World) : Prop :=
  e = .returned (.tuple #[]) ∧ (∃ bv sv, Sto w' s R st bv sv) ∧ Fr R w w'

theorem s_varint (s : Nat) (R : Nat → Prop) (st : St) (bv sv : Value) (x : Int) (h0 : -9223372036854775808 ≤ x) (h1 : x ≤ 9223372036854775807) (w : World) (h : Sto w s R st bv sv) (hlim : st.1.length + 10 ≤ 140737488355328) :
    Calls Try.prog 65 #[.pointer (some ⟨s, 0, none⟩), .int .i64 x] w fun e w' => Step s R w (putV x st) e w' := by
  have hc : w.cell? ⟨s, 0, none⟩ = some bv := by simpa using cell_of_row w s 0 #[bv, sv] 72 (0, 0) h.box
  have hV := appendVarint 0 st.1.length x h0 h1 bv _ w h.bytes (Nat.zero_le _) hlim
  have hl := vb_len x h0 h1
  have HS := hd h
  rcases h.bytes.2 with ⟨hb, hz⟩ | ⟨g, cap, cur, hb, hz⟩
  all_goals
    clear hz h
    rw [hb] at hV hc HS
    go_enter Try.func65, Try.ntmps65
    go_wp2_with fail
    refine hV.mono ?_
    rintro e w1 ⟨v', rfl, ho, hg, hm⟩
    obtain ⟨g', cap', hv, hq1, hq2⟩ := ho.form (by omega)
    clear hq1 hq2
    obtain ⟨hs1, hst, hfr⟩ := HS.out.put ho hg hm
    have hc1 : w1.cell? ⟨s, 0, none⟩ = some _ := cell_of_row w1 s 0 _ 72 (0, 0) hs1
    have hf1 := frozen_of_row w1 s 0 _ 72 hs1
    have HR := hd (And.intro hst hfr)
    clear ho hg hm hs1 hst hfr
    subst hv
    go_wp2
    go_end0
    exact ⟨rfl, ⟨_, _, HR.out.1⟩, HR.out.2⟩
theorem s_int (f : Nat) (hf : f = 60 ∨ f = 61) (s : Nat) (R : Nat → Prop) (st : St) (bv sv : Value) (p : Addr) (x : Int) (h0 : -9223372036854775808 ≤ x) (h1 : x ≤ 9223372036854775807) (w : World) (h : Sto w s R st bv sv) (hlim : st.1.length + 10 ≤ 140737488355328)
    (hc : w.cell? p = some (.int .i64 x)) : Calls Try.prog f #[.pointer (some ⟨s, 0, none⟩), .pointer (some p)] w fun e w' => Step s R w (putV x st) e w' := by
  have C := hd (s_varint s R st bv sv x h0 h1 w h hlim)
  clear h
  rcases hf with rfl | rfl
  · go_enter Try.func60, Try.ntmps60
    go_wp2_with (go_at_call 65; refine C.out.mono ?_; rintro e w' ⟨rfl, h1, h2⟩)
    go_end0
    exact ⟨rfl, h1, h2⟩
  · go_enter Try.func61, Try.ntmps61
    go_wp2_with (go_at_call 65; refine C.out.mono ?_; rintro e w' ⟨rfl, h1, h2⟩)
    go_end0
    exact ⟨rfl, h1, h2⟩
end Go.Proofs.Qxb6618929a
