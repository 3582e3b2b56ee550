/-
  THE DECODER IN MEMORY; zzDecByte, zzDecFlag.
-/
import Derived.Test.Qxb6618929aSmall
import Derived.Lib.VarintBits
namespace Go.Proofs.Qxb6618929a
open Go Go.RowKit

/-- The decoder's box at s: the bytes 'out', where she stands, the strings so far; ok. -/
structure Dec (w : World) (s : Nat) (R : Nat → Prop) (out : List UInt8) (p : Nat) (ts : List (List UInt8)) (bv sv : Value) : Prop where
  box : w.heap[s]? = some (.cells #[bv, .int .i64 p, sv, .bool true] 45 (0, 0))
  bytes : RowAt w R bv out
  strs : w.ownsRow 0 9 1 sv ts.length (ts.map encS)
  sat : ∀ k, sv.ownBlock = some k → ¬ R k
  here : ¬ R s
  base : ∀ k, R k → k < w.heap.size

theorem RowAt.kept {w w' : World} {R : Nat → Prop} {v : Value} {l : List UInt8} (h : RowAt w R v l) (hs : Same R w w') : RowAt w' R v l := by
  obtain ⟨ao, cap, h1, h2⟩ := h
  refine ⟨ao, cap, h1, ?_⟩
  rcases h2 with h2 | ⟨h0, b, off, h3, h4, h5⟩
  · exact .inl h2
  · exact .inr ⟨h0, b, off, h3, h4, fun j hj => (hs.cell (p := ⟨b, off + j, none⟩) h4).trans (h5.out j hj)⟩
theorem RowAt.more {w : World} {R R' : Nat → Prop} {v : Value} {l : List UInt8} (h : RowAt w R v l) (hr : ∀ k, R k → R' k) : RowAt w R' v l := by
  obtain ⟨ao, cap, h1, h2⟩ := h
  refine ⟨ao, cap, h1, ?_⟩
  rcases h2 with h2 | ⟨h0, b, off, h3, h4, h5⟩
  · exact .inl h2
  · exact .inr ⟨h0, b, off, h3, hr _ h4, h5⟩
theorem Dec.lt {w : World} {s : Nat} {R : Nat → Prop} {out : List UInt8} {p : Nat} {ts : List (List UInt8)} {bv sv : Value} (h : Dec w s R out p ts bv sv) : s < w.heap.size := (Array.getElem?_eq_some_iff.1 h.box).1
theorem Dec.drewN {w : World} {s : Nat} {R : Nat → Prop} {out : List UInt8} {p : Nat} {ts : List (List UInt8)} {bv sv : Value} (h : Dec w s R out p ts bv sv) (n : Nat) : Dec (w.drewN n) s R out p ts bv sv :=
  ⟨h.box, h.bytes.kept (fun _ _ => rfl), own_kept h.strs (fun _ _ => rfl), h.sat, h.here, h.base⟩
theorem Fr.drewN {R : Nat → Prop} {w w1 : World} (h : Fr R w w1) (n : Nat) : Fr R w (w1.drewN n) := ⟨h.os, h.tape, h.output, h.size, h.block⟩
theorem Dec.cells {w : World} {s : Nat} {R : Nat → Prop} {out : List UInt8} {p : Nat} {ts : List (List UInt8)} {bv sv : Value} (h : Dec w s R out p ts bv sv) :
    w.cell? ⟨s, 0, none⟩ = some bv ∧ w.cell? ⟨s, 1, none⟩ = some (.int .i64 p) ∧ w.cell? ⟨s, 2, none⟩ = some sv ∧ w.cell? ⟨s, 3, none⟩ = some (.bool true) ∧ w.frozen? ⟨s, 1, none⟩ = false ∧ w.frozen? ⟨s, 2, none⟩ = false :=
  ⟨cell_of_row w s 0 _ 45 (0, 0) h.box, cell_of_row w s 1 _ 45 (0, 0) h.box, cell_of_row w s 2 _ 45 (0, 0) h.box, cell_of_row w s 3 _ 45 (0, 0) h.box, frozen_of_row w s 1 _ 45 h.box, frozen_of_row w s 2 _ 45 h.box⟩
theorem Dec.move {w : World} {s : Nat} {R : Nat → Prop} {out : List UInt8} {p : Nat} {ts : List (List UInt8)} {bv sv : Value} (h : Dec w s R out p ts bv sv) (q : Nat) :
    Dec (w.setCell ⟨s, 1, none⟩ (.int .i64 q)) s R out q ts bv sv ∧ Fr R w (w.setCell ⟨s, 1, none⟩ (.int .i64 q)) := by
  have hset : ∀ k, k ≠ s → (w.setCell ⟨s, 1, none⟩ (.int .i64 q)).heap[k]? = w.heap[k]? := fun k hk => Below.heap_setCell _ _ _ _ hk
  have hsz : (w.setCell ⟨s, 1, none⟩ (.int .i64 q)).heap.size = w.heap.size := by simp [World.setCell]
  have hsame : ∀ k, R k → (w.setCell ⟨s, 1, none⟩ (.int .i64 q)).heap[k]? = w.heap[k]? := fun k hk => hset k (fun e => h.here (e ▸ hk))
  refine ⟨⟨by simpa using heap_setCell_same w s 1 _ 45 (.int .i64 q) h.box, h.bytes.kept hsame, own_kept h.strs (fun k hk => hset k (fun e => own_ne h.strs h.box (by decide) (e ▸ hk))), h.sat, h.here, fun k hk => by rw [hsz]; exact h.base k hk⟩, rfl, rfl, rfl, by rw [hsz]; exact Nat.le_refl _, hsame⟩

/-- Behind a step of the decoder. -/
def DecTo (s : Nat) (R : Nat → Prop) (w : World) (out : List UInt8) (p : Nat) (ts : List (List UInt8)) (bv : Value) (w' : World) : Prop := (∃ sv, Dec w' s R out p ts bv sv) ∧ Fr R w w'

/-- A byte at p. -/
theorem drop_cons {out rest : List UInt8} {p : Nat} {c : UInt8} (h : out.drop p = c :: rest) : p < out.length ∧ out.getD p 0 = c ∧ out.drop (p + 1) = rest := by
  have hp : p < out.length := by
    rcases Nat.lt_or_ge p out.length with h1 | h1
    · exact h1
    · rw [List.drop_eq_nil_of_le h1] at h; cases h
  rw [List.drop_eq_getElem_cons hp] at h
  injection h with h1 h2
  exact ⟨hp, by simp [List.getD, hp, h1], h2⟩

theorem d_byte (s : Nat) (R : Nat → Prop) (out : List UInt8) (p : Nat) (ts : List (List UInt8)) (bv sv : Value) (c : UInt8) (rest : List UInt8) (w : World) (h : Dec w s R out p ts bv sv) (hout : out.length ≤ 140737489403904) (hc : out.drop p = c :: rest) :
    Calls Try.prog 42 #[.pointer (some ⟨s, 0, none⟩)] w fun e w' => e = .returned (.int .u8 c.toNat) ∧ DecTo s R w out (p + 1) ts bv w' := by
  obtain ⟨hp, hg, _⟩ := drop_cons hc
  obtain ⟨ao, cap, hbv, h2⟩ := h.bytes
  rcases h2 with h2 | ⟨_, b, off, rfl, hRb, h5⟩
  · omega
  subst hbv
  have hx := h5.out p hp
  rw [hg] at hx
  obtain ⟨b0, b1, b2, b3, f1, f2⟩ := h.cells
  have HD := hd h
  clear h h5 hc hg b2 f2
  have d1 : decide (out.length ≤ p) = false := by simp; omega
  go_enter Try.func42, Try.ntmps42
  go_wp2
  go_quiet (fail)
  go_wp2
  go_quiet (fail)
  go_wp2
  go_ret
  obtain ⟨g1, g2⟩ := (HD.out.drewN _).move (p + 1)
  exact ⟨rfl, ⟨_, g1⟩, ((Fr.refl R w).drewN _).trans g2⟩

theorem d_flag (s : Nat) (R : Nat → Prop) (out : List UInt8) (p : Nat) (ts : List (List UInt8)) (bv sv : Value) (f : Bool) (rest : List UInt8) (w : World) (h : Dec w s R out p ts bv sv) (hout : out.length ≤ 140737489403904) (hc : out.drop p = bitB f 1 :: rest) :
    Calls Try.prog 34 #[.pointer (some ⟨s, 0, none⟩)] w fun e w' => e = .returned (.bool f) ∧ DecTo s R w out (p + 1) ts bv w' := by
  have C := hd (d_byte s R out p ts bv sv _ rest w h hout hc)
  clear h hc
  cases f
  all_goals
    simp only [bitB, if_true, Bool.false_eq_true, if_false] at C
    go_enter Try.func34, Try.ntmps34
    go_wp2_with (go_at_call 42; refine C.out.mono ?_; rintro e w' ⟨rfl, ⟨sv', g1⟩, g2⟩; have b3 := g1.cells.2.2.2.1; have HG := hd (And.intro g1 g2); clear g1 g2)
    go_ret
    exact ⟨rfl, ⟨_, HG.out.1⟩, HG.out.2⟩
end Go.Proofs.Qxb6618929a
