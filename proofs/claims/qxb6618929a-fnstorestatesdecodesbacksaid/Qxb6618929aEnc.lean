/-
  THE STORER's SIDE: AppendUvarint, AppendVarint with the exact frame ('grownBy'); storer.varint; ZZstorerVarint. (AppendUvarint's walk is the shelf's own, its frame said more closely.)
-/
import Derived.Test.Qxb6618929aRows
import Derived.Test.Qxb6618929aPlain
import Derived.WalkKit
import Derived.WalkSpells
import Derived.WalkSmall
import Derived.Deep.AppendLies
import Derived.Lib.Walk
import Derived.Lib.Slices
namespace Go.Proofs.Qxb6618929a
open Go Go.RowKit

/-- Growth behind growth: the second one may write the first one's row, or a block that is new since w. -/
theorem grown_trans {w w1 w2 : World} {r r2 : Option Nat} (h1 : w.grownBy w1 r) (h2 : w1.grownBy w2 r2) (hr : r2 = r ∨ ∀ k, r2 = some k → w.heap.size ≤ k) : w.grownBy w2 r :=
  ⟨h2.os.trans h1.os, h2.tape.trans h1.tape, h2.output.trans h1.output, Nat.le_trans h1.size h2.size, fun k hk hne => by
    rw [h2.block k (Nat.lt_of_lt_of_le hk h1.size) (fun e => by
      rcases hr with h | h
      · exact hne (e.trans h)
      · have := h k e.symm; omega), h1.block k hk hne]⟩

theorem grown_below {w w' : World} {B : Nat} {r : Option Nat} (h : w.grownBy w' r) (hB : B ≤ w.heap.size) (hr : ∀ k, r = some k → B ≤ k) : Below B w w' :=
  (Below.refl _ _).grown h hB hr

theorem Try.info5 : (Try.prog.info? 5).map (fun i => (i.zero, i.size, i.bytes)) = some (some (.int .u8 0), 1, 1) := by kernel_rfl

/-- Where the row lies behind an append: where it lay, or in a block that is new since w. -/
def Moved (w : World) (sv v : Value) : Prop := v.ownBlock = sv.ownBlock ∨ ∀ k, v.ownBlock = some k → w.heap.size ≤ k

theorem moved_step {w : World} {sv u : Value} {g n cap H : Nat} (h : Moved w sv u) (hat : u.ownBlock = some g ∨ g = H) (hH : w.heap.size ≤ H) : Moved w sv (.slice (some ⟨g, 0, none⟩) n cap) := by
  rcases hat with h1 | h1
  · rcases h with h | h
    · left; rw [← h, h1]; rfl
    · right; intro k hk; exact h k (by rw [h1]; exact hk)
  · right; intro k hk; simp [Value.ownBlock] at hk; omega

set_option maxHeartbeats 8000000 in
set_option maxRecDepth 100000 in
theorem appendUvarint (B n x : Nat) (hx : x < 18446744073709551616) (sv : Value) (xs : List Value) (w : World) (hown : w.ownsRow B 5 1 sv n xs) (hBw : B ≤ w.heap.size) (hlim : n + 10 ≤ 140737488355328) :
    Calls Try.prog 70 #[sv, .int .u64 x] w fun e w' => ∃ v', e = .returned v' ∧ w'.ownsRow B 5 1 v' (n + (Lib.uvarint x).length) (xs ++ Lib.byteCells (Lib.uvarint x)) ∧ w.grownBy w' sv.ownBlock ∧ Moved w sv v' := by
  obtain ⟨i0, hi, hz0, hz1, hz2⟩ := info_parts Try.info5
  have hlen := Lib.uvarint_length64 hx
  go_enter Try.func70, Try.ntmps70
  go_wp2
  go_loopw [0, 1] (fun vb vx wr => ∃ (y : Nat) (pre : List UInt8), vx = .int .u64 y ∧ y ≤ x ∧ Lib.uvarint x = pre ++ Lib.uvarint y ∧ wr.ownsRow B 5 1 vb (n + pre.length) (xs ++ Lib.byteCells pre) ∧ w.grownBy wr sv.ownBlock ∧ Moved w sv vb)
    (fun _ vx _ => (intOf vx).toNat)
  case atStart => exact ⟨x, [], rfl, Nat.le_refl _, rfl, by simpa [Lib.byteCells] using hown, World.grownBy.refl _ _, .inl rfl⟩
  case round =>
    obtain ⟨y, pre, rfl, hy, hsplit, hown1, hnx, hmv⟩ := hrel
    have hpl : pre.length + (Lib.uvarint y).length ≤ 10 := by
      have h2 := congrArg List.length hsplit
      rw [List.length_append] at h2
      omega
    have hyp := Lib.uvarint_pos y
    have hsz := hnx.size
    by_cases h128 : 128 ≤ y
    · have hor : bits .or .u8 ((y : Int) % 256) 128 = ((y % 128 + 128 : Nat) : Int) := by
        rw [Lib.u8_or128_any _ (by omega) (by omega)]
        omega
      go_wp2_with (at_builtin; refine wpList_append_lies _ rfl _ _ 36 rfl B 5 i0 (.int .u8 0) 1 1 Try.underlying36 hi hz0 hz1 hz2 rfl (by decide) _ _ _ rfl (hown1.alloc _) ⟨wr.heap.size, 0, none⟩ 1 1 [Value.int .u8 ((y % 128 + 128 : Nat))] rfl rfl ?c1a ?c2a (by decide) ?c3a ?c4a ?c5a (wr.heap.size + 1) ?c6a ?_)
      case c1a =>
        intro j u hj
        match j, hj with
        | 0, hj => simp at hj; subst hj; simp [Addr.add]
      case c2a => intro u hu; simp at hu; subst hu; rfl
      case c3a => unfold maxLen; omega
      case c4a => omega
      case c5a => simp; omega
      case c6a => simp
      intro g cap w1 hown' hgrow hat hlt
      have hg1 : w.grownBy w1 sv.ownBlock := grown_trans (grown_trans hnx (World.grownBy_alloc wr _ none) (.inr (fun k h => by cases h))) hgrow hmv
      have hm1 : Moved w sv (.slice (some ⟨g, 0, none⟩) (n + pre.length + 1) cap) := moved_step hmv hat (by omega)
      have HG : Hid (_ ∧ _ ∧ _) := And.intro hown' (And.intro hg1 hm1)
      clear hown' hgrow hat hlt hg1 hm1 hown1 hnx hmv
      go_wp2
      go_roundw
      case rel =>
        refine ⟨y / 128, pre ++ [(y % 128 + 128).toUInt8], by go_num, by omega, by rw [hsplit, Lib.uvarint_big h128]; simp, ?_, HG.out.2.1, ?_⟩
        · have ec : ((y % 128 + 128 : Nat) : Int) = (y : Int) % 128 + 128 := by omega
          rw [Lib.byteCells_snoc pre (by omega), List.length_append, List.length_singleton, ← Nat.add_assoc, ec]
          exact HG.out.1
        · exact HG.out.2.2
      case measure => simp [intOf]; omega
    · have hsm : Lib.uvarint y = [y.toUInt8] := Lib.uvarint_small (by omega)
      go_wp2_with (at_builtin; refine wpList_append_lies _ rfl _ _ 36 rfl B 5 i0 (.int .u8 0) 1 1 Try.underlying36 hi hz0 hz1 hz2 rfl (by decide) _ _ _ rfl (hown1.alloc _) ⟨wr.heap.size, 0, none⟩ 1 1 [Value.int .u8 ((y : Int))] rfl rfl ?c1b ?c2b (by decide) ?c3b ?c4b ?c5b (wr.heap.size + 1) ?c6b ?_)
      case c1b =>
        intro j u hj
        match j, hj with
        | 0, hj => simp at hj; subst hj; simp [Addr.add]
      case c2b => intro u hu; simp at hu; subst hu; rfl
      case c3b => unfold maxLen; omega
      case c4b => omega
      case c5b => simp; omega
      case c6b => simp
      intro g cap w1 hown' hgrow hat hlt
      have hg1 : w.grownBy w1 sv.ownBlock := grown_trans (grown_trans hnx (World.grownBy_alloc wr _ none) (.inr (fun k h => by cases h))) hgrow hmv
      have hm1 : Moved w sv (.slice (some ⟨g, 0, none⟩) (n + pre.length + 1) cap) := moved_step hmv hat (by omega)
      have HG : Hid (_ ∧ _ ∧ _) := And.intro hown' (And.intro hg1 hm1)
      clear hown' hgrow hat hlt hg1 hm1 hown1 hnx hmv
      go_wp2
      go_ret
      refine ⟨_, rfl, ?_, HG.out.2.1, HG.out.2.2⟩
      rw [hsplit, hsm, Lib.byteCells_snoc pre (by omega), List.length_append, List.length_singleton, ← Nat.add_assoc]
      exact HG.out.1

theorem appendVarint (B n : Nat) (x : Int) (h0 : -9223372036854775808 ≤ x) (h1 : x ≤ 9223372036854775807) (sv : Value) (xs : List Value) (w : World) (hown : w.ownsRow B 5 1 sv n xs) (hBw : B ≤ w.heap.size) (hlim : n + 10 ≤ 140737488355328) :
    Calls Try.prog 71 #[sv, .int .i64 x] w fun e w' => ∃ v', e = .returned v' ∧ w'.ownsRow B 5 1 v' (n + (vb x).length) (xs ++ Lib.byteCells (vb x)) ∧ w.grownBy w' sv.ownBlock ∧ Moved w sv v' := by
  have hU := appendUvarint B n (Lib.zigzag x) (Lib.zigzag_lt h0 h1) sv xs w hown hBw hlim
  by_cases hneg : x < 0
  · rw [← Lib.zigzag_neg h0 hneg] at hU
    go_enter Try.func71, Try.ntmps71
    go_wp2_with (go_at_call 70; refine hU.mono ?_; rintro e w1 ⟨v', rfl, ho, hb⟩)
    go_wp2
    go_ret
    exact ⟨v', rfl, ho, hb⟩
  · rw [Lib.zigzag_nonneg (by omega)] at hU
    go_enter Try.func71, Try.ntmps71
    go_wp2_with (go_at_call 70; refine hU.mono ?_; rintro e w1 ⟨v', rfl, ho, hb⟩)
    go_wp2
    go_ret
    exact ⟨v', rfl, ho, hb⟩

/-- w' is w but for the blocks of S and new ones. -/
structure Keeps (w w' : World) (S : Nat → Prop) : Prop where
  os : w'.os = w.os
  tape : w'.tape = w.tape
  output : w'.output = w.output
  size : w.heap.size ≤ w'.heap.size
  block : ∀ k, k < w.heap.size → ¬ S k → w'.heap[k]? = w.heap[k]?

theorem Keeps.refl (w : World) (S : Nat → Prop) : Keeps w w S := ⟨rfl, rfl, rfl, Nat.le_refl _, fun _ _ _ => rfl⟩
theorem Keeps.trans {w w1 w2 : World} {S S2 : Nat → Prop} (h1 : Keeps w w1 S) (h2 : Keeps w1 w2 S2) (hs : ∀ k, k < w.heap.size → S2 k → S k) : Keeps w w2 S :=
  ⟨h2.os.trans h1.os, h2.tape.trans h1.tape, h2.output.trans h1.output, Nat.le_trans h1.size h2.size, fun k hk hne => by
    rw [h2.block k (Nat.lt_of_lt_of_le hk h1.size) (fun e => hne (hs k hk e)), h1.block k hk hne]⟩
theorem Keeps.of_grown {w w' : World} {r : Option Nat} (h : w.grownBy w' r) : Keeps w w' (fun k => some k = r) := ⟨h.os, h.tape, h.output, h.size, h.block⟩
theorem Keeps.below {w w' : World} {S : Nat → Prop} (h : Keeps w w' S) {B : Nat} (hB : B ≤ w.heap.size) (hs : ∀ k, k < w.heap.size → S k → B ≤ k) : Below B w w' :=
  ⟨h.os, h.tape, h.output, h.size, fun k hk => h.block k (by omega) (fun e => by have := hs k (by omega) e; omega)⟩
theorem Keeps.alloc {w w' : World} {S : Nat → Prop} (h : Keeps w w' S) (o : Obj) : Keeps w (w'.alloc o) S :=
  h.trans (Keeps.of_grown (World.grownBy_alloc w' o none)) (fun k _ e => by cases e)
theorem Keeps.setCell {w w' : World} {S : Nat → Prop} (h : Keeps w w' S) {a : Addr} (u : Value) (hs : a.block < w.heap.size → S a.block) : Keeps w (w'.setCell a u) S :=
  ⟨h.os, h.tape, h.output, by rw [show (w'.setCell a u).heap.size = w'.heap.size by simp [World.setCell]]; exact h.size, fun k hk hne => by
    rw [Below.heap_setCell _ _ _ _ (fun e => hne (by subst e; exact hs hk)), h.block k hk hne]⟩

/-- A block's own row of one type is not a block of another. -/
theorem own_ne {w : World} {B n : Nat} {v : Value} {xs : List Value} {s : Nat} {cs : Array Value} {e t : TypeId} (h : w.ownsRow B e 1 v n xs) (hs : w.heap[s]? = some (.cells cs t (0, 0))) (hne : e ≠ t) : v.ownBlock ≠ some s := by
  intro hv
  rcases h.2 with ⟨rfl, _⟩ | ⟨g, cap, cur, rfl, _, hg, _⟩
  · simp [Value.ownBlock] at hv
  · simp [Value.ownBlock] at hv
    subst hv
    rw [hs] at hg
    simp at hg
    exact hne hg.2.symm

theorem heap_set2 {w : World} {s : Nat} {a b u : Value} {t : TypeId} (h : w.heap[s]? = some (.cells #[a, b] t (0, 0))) : (w.setCell ⟨s, 0, none⟩ u).heap[s]? = some (.cells #[u, b] t (0, 0)) := by
  simpa using heap_setCell_same w s 0 #[a, b] t u h

end Go.Proofs.Qxb6618929a
