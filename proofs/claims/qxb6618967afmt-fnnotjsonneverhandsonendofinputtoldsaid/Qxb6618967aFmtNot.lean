/-
  notJSON at the two sentinels: a new error, whatever the text.
-/
import Derived.Test.Qxb6618967aFmtClone
namespace Go.Proofs.Qxb6618967aFmt
open Go Go.RowKit Go.Extern.Stop Go.Stop Go.Extern

/-- What the two listed variables hold: two different errors of errors.New's make. -/
structure Two (w : World) (a0 a1 : Addr) (c0 c1 : Array Value) (t0 t1 : TypeId) : Prop where
  g0 : w.cell? ⟨0, 0, none⟩ = some (.iface 51 (.pointer (some a0)))
  g1 : w.cell? ⟨1, 0, none⟩ = some (.iface 51 (.pointer (some a1)))
  ne : a0 ≠ a1
  b0 : w.heap[a0.block]? = some (.cells c0 t0 (0, 0))
  b1 : w.heap[a1.block]? = some (.cells c1 t1 (0, 0))
  two : 2 ≤ w.heap.size

theorem block_lt {w : World} {b : Nat} {o : Obj} (h : w.heap[b]? = some o) : b < w.heap.size := by
  rcases Nat.lt_or_ge b w.heap.size with hlt | hge
  · exact hlt
  · rw [Array.getElem?_eq_none hge] at h; cases h

theorem Two.below {w w' : World} {a0 a1 : Addr} {c0 c1 : Array Value} {t0 t1 : TypeId} (h : Two w a0 a1 c0 c1 t0 t1) (hb : Below w.heap.size w w') : Two w' a0 a1 c0 c1 t0 t1 :=
  ⟨(hb.cell (p := ⟨0, 0, none⟩) (Nat.lt_of_lt_of_le (by decide) h.two)).trans h.g0, (hb.cell (p := ⟨1, 0, none⟩) (Nat.lt_of_lt_of_le (by decide) h.two)).trans h.g1, h.ne, (hb.block _ (block_lt h.b0)).trans h.b0, (hb.block _ (block_lt h.b1)).trans h.b1, Nat.le_trans h.two hb.size⟩

/-- Which of the two. -/
def pickA (q : Bool) (a0 a1 : Addr) : Addr := if q then a0 else a1

set_option maxHeartbeats 1000000 in
theorem notJSON (F : Interp) (q : Bool) (s : ByteArray) (ao : Option Addr) (n : Nat) (zs : List Int) (w : World) (a0 a1 : Addr) (c0 c1 : Array Value) (t0 t1 : TypeId) (hF : F.answers w.tape) (hn : n ≤ 1048576) (h : BytesAt w ao n zs) (h2 : Two w a0 a1 c0 c1 t0 t1) :
    Calls Tryf.prog 10 #[.string s, .slice ao n n, .iface 51 (.pointer (some (pickA q a0 a1)))] w fun e w' => (∃ v, e = .returned v ∧ NewErr w.heap.size w' v) ∧ Below w.heap.size w w' := by
  have CS := hd (strayAny F s ao n zs w hF hn h)
  have HT := hd h2
  have HF := hd hF
  obtain ⟨i, hi, hcmp⟩ := Option.map_eq_some_iff.1 Tryf.isComp
  obtain ⟨j, hj, hjs⟩ := Option.map_eq_some_iff.1 Tryf.isSize
  have hif : Tryf.prog.isIface 26 = true := by kernel_rfl
  clear h h2 hF
  cases q
  all_goals
    simp only [pickA, Bool.false_eq_true, if_false, if_true]
    go_enter Tryf.func10, Tryf.ntmps10
    go_wp2_with (first
      | (go_at_call 12; refine CS.out.mono ?_; rintro e w1 ⟨rfl | ⟨v, rfl, b, t, rfl, hB, hblk⟩, hb1⟩; all_goals (have hT := HT.out.below hb1; have hg0 := hT.g0; have hg1 := hT.g1; have heqS := run_eql_iface_ptr_same (P := Tryf.prog) w1 a0 Tryf.underlying26 Tryf.underlying51 hi hcmp hj; have heqT := run_eql_iface_ptr_same (P := Tryf.prog) w1 a1 Tryf.underlying26 Tryf.underlying51 hi hcmp hj; have heqO := run_eql_iface_ptr_other (P := Tryf.prog) w1 Tryf.underlying26 Tryf.underlying51 hi hcmp hj (by rw [hjs]; decide) (Ne.symm hT.ne) hT.b1 hT.b0; have HB1 := hd hb1; clear hT hb1))
      | (go_at_call 13; refine (errorf F true s w1.heap.size (w1.alloc (.cells #[.iface 9 (.string s)] 20)) (by rw [show (w1.alloc (.cells #[.iface 9 (.string s)] 20)).tape = w.tape from HB1.out.tape]; exact HF.out) (by simp)).mono ?_; rintro e w' ⟨t, rfl, rfl⟩))
    all_goals go_ret
    all_goals first
      | exact ⟨⟨_, rfl, b, t, rfl, hB, hblk⟩, HB1.out⟩
      | exact ⟨⟨_, rfl, _, t, rfl, (by have := HB1.out.size; simp; omega), (by simpa using heap_last (w1.alloc (.cells #[.iface 9 (.string s)] 20)) (.cells #[.string t] 53))⟩, ((HB1.out.alloc HB1.out.size _).alloc (by have := HB1.out.size; simp; omega) _).drew⟩

theorem notEOF (F : Interp) (s : ByteArray) (ao : Option Addr) (n : Nat) (zs : List Int) (w : World) (a0 a1 : Addr) (c0 c1 : Array Value) (t0 t1 : TypeId) (hF : F.answers w.tape) (hn : n ≤ 1048576) (h : BytesAt w ao n zs) (h2 : Two w a0 a1 c0 c1 t0 t1) :
    Calls Tryf.prog 6 #[.string s, .slice ao n n] w fun e w' => (∃ v, e = .returned v ∧ NewErr w.heap.size w' v) ∧ Below w.heap.size w w' := by
  have C := hd (notJSON F true s ao n zs w a0 a1 c0 c1 t0 t1 hF hn h h2)
  have hg := h2.g0
  clear h h2 hF
  go_enter Tryf.func6, Tryf.ntmps6
  go_wp2_with (go_at_call 10; refine C.out.mono ?_; rintro e w1 ⟨⟨v, rfl, b, t, rfl, hB, hblk⟩, hb1⟩)
  go_ret
  exact ⟨⟨_, rfl, b, t, rfl, hB, hblk⟩, hb1⟩

theorem notUnexpected (F : Interp) (s : ByteArray) (ao : Option Addr) (n : Nat) (zs : List Int) (w : World) (a0 a1 : Addr) (c0 c1 : Array Value) (t0 t1 : TypeId) (hF : F.answers w.tape) (hn : n ≤ 1048576) (h : BytesAt w ao n zs) (h2 : Two w a0 a1 c0 c1 t0 t1) :
    Calls Tryf.prog 7 #[.string s, .slice ao n n] w fun e w' => (∃ v, e = .returned v ∧ NewErr w.heap.size w' v) ∧ Below w.heap.size w w' := by
  have C := hd (notJSON F false s ao n zs w a0 a1 c0 c1 t0 t1 hF hn h h2)
  have hg := h2.g1
  clear h h2 hF
  go_enter Tryf.func7, Tryf.ntmps7
  go_wp2_with (go_at_call 10; refine C.out.mono ?_; rintro e w1 ⟨⟨v, rfl, b, t, rfl, hB, hblk⟩, hb1⟩)
  go_ret
  exact ⟨⟨_, rfl, b, t, rfl, hB, hblk⟩, hb1⟩

theorem isEOF (b : Nat) (t : ByteArray) (w : World) (a0 a1 : Addr) (c0 c1 : Array Value) (t0 t1 : TypeId) (h2 : Two w a0 a1 c0 c1 t0 t1) (hblk : w.heap[b]? = some (.cells #[.string t] 53 (0, 0))) (hne : b ≠ a0.block) :
    Calls Tryf.prog 8 #[.iface 51 (.pointer (some ⟨b, 0, none⟩))] w fun e w' => e = .returned (.bool false) ∧ w' = w := by
  have C := hd (is_other ⟨b, 0, none⟩ a0 _ _ _ _ w (fun e => hne (congrArg Addr.block e)) hblk h2.b0)
  have hg := h2.g0
  clear h2 hblk
  go_enter Tryf.func8, Tryf.ntmps8
  go_wp2_with (go_at_call 11; refine C.out.mono ?_; rintro e w1 ⟨rfl, rfl⟩)
  go_ret
  exact ⟨rfl, rfl⟩

theorem isUnexpected (b : Nat) (t : ByteArray) (w : World) (a0 a1 : Addr) (c0 c1 : Array Value) (t0 t1 : TypeId) (h2 : Two w a0 a1 c0 c1 t0 t1) (hblk : w.heap[b]? = some (.cells #[.string t] 53 (0, 0))) (hne : b ≠ a1.block) :
    Calls Tryf.prog 9 #[.iface 51 (.pointer (some ⟨b, 0, none⟩))] w fun e w' => e = .returned (.bool false) ∧ w' = w := by
  have C := hd (is_other ⟨b, 0, none⟩ a1 _ _ _ _ w (fun e => hne (congrArg Addr.block e)) hblk h2.b1)
  have hg := h2.g1
  clear h2 hblk
  go_enter Tryf.func9, Tryf.ntmps9
  go_wp2_with (go_at_call 11; refine C.out.mono ?_; rintro e w1 ⟨rfl, rfl⟩)
  go_ret
  exact ⟨rfl, rfl⟩
end Go.Proofs.Qxb6618967aFmt
