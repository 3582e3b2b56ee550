/-
  storer.seat.
-/
import Derived.Test.Qxb6618929aSame
import Derived.Test.Qxb6618929aStr2
import Derived.Deep.RegionHeld3
namespace Go.Proofs.Qxb6618929a
open Go Go.RowKit

/-! ### How much each part adds -/
theorem lenB (c : UInt8) (st : St) : (putB c st).1.length ≤ st.1.length + 1 ∧ (putB c st).2.length ≤ st.2.length := by simp [putB]
theorem lenV (x : Int) (st : St) (h : Range x) : (putV x st).1.length ≤ st.1.length + 10 ∧ (putV x st).2.length ≤ st.2.length := by
  have := (vb_len x h.1 h.2).2
  simp [putV]; omega
theorem lenStr (t : List UInt8) (st : St) (h1 : st.2.length ≤ 1073741824) (h2 : t.length ≤ 140737488355328) : (putStr t st).1.length ≤ st.1.length + 20 + t.length ∧ (putStr t st).2.length ≤ st.2.length + 1 := by
  rcases putStr_of (ts := st.2) (t := t) st.1 with ⟨i, h3, _, h4⟩ | ⟨_, h4⟩
  · rw [show putStr t st = _ from h4]
    have := Lib.uvarint_length64 (x := i) (by omega)
    simp; omega
  · rw [show putStr t st = _ from h4]
    have := Lib.uvarint_length64 (x := st.2.length) (by omega)
    have := Lib.uvarint_length64 (x := t.length) (by omega)
    simp; omega
theorem lenCards (o : Option (List UInt8)) (st : St) (h : (o.getD []).length ≤ 140737488355328) : (putCards o st).1.length ≤ st.1.length + 10 + (o.getD []).length ∧ (putCards o st).2.length ≤ st.2.length := by
  cases o with
  | none => simp [putCards, putLen, putB]
  | some cs =>
    simp only [Option.getD_some] at h ⊢
    have := (putLen_len (some cs.length) st (fun k hk => by have := Option.some.inj hk; omega)).2
    simp [putCards]; omega
theorem lenOpt (o : Option Int) (st : St) (h : ∀ x, o = some x → Range x) : (putOpt o st).1.length ≤ st.1.length + 20 ∧ (putOpt o st).2.length ≤ st.2.length := by
  cases o with
  | none => simp [putOpt, putB]
  | some x =>
    have h1 := lenV x (putB 1 st) (h x rfl)
    have h2 := lenB 1 st
    simp only [putOpt]; omega

structure SeatOk (d : SeatD) : Prop where
  seat : Range d.seat
  name : d.name.length ≤ 1048577
  stack : Range d.stack
  bet : Range d.bet
  cards : CardsOk d.cards

theorem s_cards (s : Nat) (R : Nat → Prop) (st : St) (bv sv : Value) (p : Addr) (v : Value) (o : Option (List UInt8)) (w : World) (h : Sto w s R st bv sv) (hl : CardsOk o) (hlim : st.1.length + 10 + 1048577 ≤ 140737488355328)
    (hp : R p.block) (hc : w.cell? p = some v) (hv : CardsAt w R v o) : Calls Try.prog 58 #[.pointer (some ⟨s, 0, none⟩), .pointer (some p)] w fun e w' => Step s R w (putCards o st) e w' := by
  unfold CardsOk at hl
  cases o with
  | none =>
    have hv : v = .slice none 0 0 := hv
    subst hv
    exact s_cards_none s R st bv sv p w h (by omega) hp hc
  | some cs =>
    obtain ⟨a, cap, rfl, h2⟩ := hv
    simp only [Option.getD_some] at hl
    exact s_cards_some s R st bv sv p a cap cs w h (by omega) (by omega) hp hc h2

theorem or1 (f : Bool) : bits .or .u8 2 ((bitB f 4).toNat : Int) = ((2 ||| bitB f 4 : UInt8).toNat : Int) := by cases f <;> decide
theorem or2 (f a : Bool) : bits .or .u8 ((2 ||| bitB f 4 : UInt8).toNat : Int) ((bitB a 8).toNat : Int) = ((2 ||| bitB f 4 ||| bitB a 8 : UInt8).toNat : Int) := by cases f <;> cases a <;> decide
theorem or3 (f a c : Bool) : bits .or .u8 ((2 ||| bitB f 4 ||| bitB a 8 : UInt8).toNat : Int) ((bitB c 16).toNat : Int) = ((2 ||| bitB f 4 ||| bitB a 8 ||| bitB c 16 : UInt8).toNat : Int) := by cases f <;> cases a <;> cases c <;> decide

theorem Sto.same {w w1 : World} {s : Nat} {R : Nat → Prop} {st : St} {bv sv : Value} (h : Sto w s R st bv sv) (hg : w.grownBy w1 bv.ownBlock) : Same R w w1 := fun k hk => hg.block k (h.base k hk) (fun e => h.bat k e.symm hk)

theorem Sto.drewN {w : World} {s : Nat} {R : Nat → Prop} {st : St} {bv sv : Value} (h : Sto w s R st bv sv) (n : Nat) : Sto (w.drewN n) s R st bv sv := ⟨h.box, h.bytes, h.bat, h.strs, h.sat, h.here, h.base⟩

/-- The seats before: nil, or these. -/
def BeforeAt (w : World) (R : Nat → Prop) (v : Value) (ds : List SeatD) : Prop :=
  ∃ (ao : Option Addr) (cap : Nat), v = .slice ao ds.length cap ∧ (ds.length ≤ 0 ∨ (0 < ds.length ∧ ∃ b off, ao = some ⟨b, off, none⟩ ∧ Hid (∀ i, i < ds.length → ∃ d cv, ds[i]? = some d ∧ SeatAt w R b (off + i * 8) d cv)))

set_option maxRecDepth 100000 in
/-- The seat is as it was before. -/
theorem s_seat_same (s : Nat) (R : Nat → Prop) (st : St) (bv sv : Value) (b o : Nat) (d d2 : SeatD) (cv : Value) (vb : Value) (ds : List SeatD) (i : Nat) (w : World) (h : Sto w s R st bv sv) (hlim : st.1.length + 10 ≤ 140737488355328)
    (hd1 : SeatAt w R b o d cv) (hok : SeatOk d) (hbf : BeforeAt w R vb ds) (hl : ds.length ≤ 1048577) (hi : ds[i]? = some d2) (hsame : sameSeatD d d2 = true) :
    Calls Try.prog 68 #[.pointer (some ⟨s, 0, none⟩), .pointer (some ⟨b, o, none⟩), vb, .int .i64 i] w fun e w' => Step s R w (putB 0 st) e w' := by
  obtain ⟨i0, hi0, hz0, hz1, hz2⟩ := info_parts Try.info5
  have hlt : i < ds.length := (List.getElem?_eq_some_iff.1 hi).1
  obtain ⟨ao, cap, rfl, h0 | ⟨_, b2, off2, rfl, HB⟩⟩ := hbf
  · omega
  obtain ⟨d2', cv2, he, hd2⟩ := HB.out i hlt
  have : d2' = d2 := Option.some.inj (he.symm.trans hi)
  subst this
  have C := hd (sameSeat72 R b o b2 (off2 + i * 8) d d2' cv cv2 w hd1 hd2 hok.cards)
  rw [hsame] at C
  have hcb : w.cell? ⟨s, 0, none⟩ = some bv := by simpa using cell_of_row w s 0 #[bv, sv] 72 (0, 0) h.box
  have HS := hd h
  obtain ⟨ab, cb, rfl⟩ := own_slice h.bytes
  clear h hd1 hd2 HB he hi hok hsame
  go_enter Try.func68, Try.ntmps68
  go_wp2_with (first
    | (at_builtin; (refine wpList_append_lies _ rfl _ _ 36 rfl 0 5 i0 (.int .u8 0) 1 1 Try.underlying36 hi0 hz0 hz1 hz2 rfl (by decide) _ _ _ rfl HOW.out ⟨w.heap.size, 0, none⟩ 1 1 [Value.int .u8 0] rfl rfl ?c1 ?c2 (by decide) ?c3 ?c4 (Nat.zero_le _) (w.heap.size + 1) ?c5 ?_; (case c1 => (exact cell_one_new w _ _)); (case c2 => (intro u hu; simp at hu; subst hu; rfl)); (case c3 => (unfold maxLen; omega)); (case c4 => omega); (case c5 => simp); intro g1 cap1 w1 hown1 hgrow1 hat1 hlt1; obtain ⟨q1, q2, q3⟩ := put_one (w := w.drewN m) (o := .cells #[.int .u8 0] 5) (z := 0) rfl rfl hown1 hgrow1 hat1 rfl; obtain ⟨hs1, hst, hfr⟩ := (HS.out.drewN m).put q1 q2 q3; have hc1 := cell_of_row w1 s 0 _ 72 (0, 0) hs1; have hf1 := frozen_of_row w1 s 0 _ 72 hs1; have HR := hd (And.intro hst hfr); clear hown1 hgrow1 hat1 q1 q2 q3 hs1 hst hfr))
    | (go_at_call 72; refine C.out.mono ?_; rintro e w' ⟨rfl, m, rfl⟩; have HOW := hd (((HS.out.drewN m).alloc (.cells #[.int .u8 0] 5)).bytes)))
  refine bodyPost_ret (results_none (by kernel_rfl) _ _ _) rfl ?_
  exact ⟨rfl, ⟨_, _, HR.out.1⟩, HR.out.2.os, HR.out.2.tape, HR.out.2.output, HR.out.2.size, HR.out.2.block⟩
end Go.Proofs.Qxb6618929a
