/-
  THE STORER IN MEMORY: her box, her bytes, her strings; what a step that appends bytes leaves.
-/
import Derived.Test.Qxb6618929aEnc
namespace Go.Proofs.Qxb6618929a
open Go Go.RowKit

theorem hd {p : Prop} (h : p) : Hid p := h

/-- The blocks of R are as they were. -/
structure Fr (R : Nat → Prop) (w w' : World) : Prop where
  os : w'.os = w.os
  tape : w'.tape = w.tape
  output : w'.output = w.output
  size : w.heap.size ≤ w'.heap.size
  block : ∀ k, R k → w'.heap[k]? = w.heap[k]?

theorem Fr.refl (R : Nat → Prop) (w : World) : Fr R w w := ⟨rfl, rfl, rfl, Nat.le_refl _, fun _ _ => rfl⟩
theorem Fr.trans {R : Nat → Prop} {w w1 w2 : World} (h1 : Fr R w w1) (h2 : Fr R w1 w2) : Fr R w w2 :=
  ⟨h2.os.trans h1.os, h2.tape.trans h1.tape, h2.output.trans h1.output, Nat.le_trans h1.size h2.size, fun k hk => (h2.block k hk).trans (h1.block k hk)⟩
theorem Fr.less {R R' : Nat → Prop} {w w1 : World} (h : Fr R w w1) (hr : ∀ k, R' k → R k) : Fr R' w w1 := ⟨h.os, h.tape, h.output, h.size, fun k hk => h.block k (hr k hk)⟩
theorem Fr.alloc {R : Nat → Prop} {w w1 : World} (h : Fr R w w1) (hB : ∀ k, R k → k < w1.heap.size) (o : Obj) : Fr R w (w1.alloc o) :=
  ⟨h.os, h.tape, h.output, by have := h.size; simp; omega, fun k hk => (Below.heap_alloc w1 o k (hB k hk)).trans (h.block k hk)⟩
theorem Fr.drew {R : Nat → Prop} {w w1 : World} (h : Fr R w w1) : Fr R w w1.drew := ⟨h.os, h.tape, h.output, h.size, h.block⟩
theorem Fr.cell {R : Nat → Prop} {w w' : World} (h : Fr R w w') {p : Addr} (hp : R p.block) : w'.cell? p = w.cell? p := World.cell?_of_block (h.block _ hp)

/-- A string's cell. -/
def encS (l : List UInt8) : Value := .string ⟨l.toArray⟩

/-- The storer's box at s: bytes st.1, strings st.2; none of it in the blocks of R. -/
structure Sto (w : World) (s : Nat) (R : Nat → Prop) (st : St) (bv sv : Value) : Prop where
  box : w.heap[s]? = some (.cells #[bv, sv] 72 (0, 0))
  bytes : w.ownsRow 0 5 1 bv st.1.length (Lib.byteCells st.1)
  bat : ∀ k, bv.ownBlock = some k → ¬ R k
  strs : w.ownsRow 0 9 1 sv st.2.length (st.2.map encS)
  sat : ∀ k, sv.ownBlock = some k → ¬ R k
  here : ¬ R s
  base : ∀ k, R k → k < w.heap.size

theorem Sto.lt {w : World} {s : Nat} {R : Nat → Prop} {st : St} {bv sv : Value} (h : Sto w s R st bv sv) : s < w.heap.size := (Array.getElem?_eq_some_iff.1 h.box).1
theorem Sto.less {w : World} {s : Nat} {R R' : Nat → Prop} {st : St} {bv sv : Value} (h : Sto w s R st bv sv) (hr : ∀ k, R' k → R k) : Sto w s R' st bv sv :=
  ⟨h.box, h.bytes, fun k hk hn => h.bat k hk (hr k hn), h.strs, fun k hk hn => h.sat k hk (hr k hn), fun hn => h.here (hr _ hn), fun k hk => h.base k (hr k hk)⟩

theorem own_kept {w w' : World} {e n : Nat} {v : Value} {xs : List Value} (h : w.ownsRow 0 e 1 v n xs) (hb : ∀ k, v.ownBlock = some k → w'.heap[k]? = w.heap[k]?) : w'.ownsRow 0 e 1 v n xs := by
  obtain ⟨h1, h2⟩ := h
  refine ⟨h1, ?_⟩
  rcases h2 with h2 | ⟨g, cap, cur, rfl, hbg, hg, hr⟩
  · exact .inl h2
  · exact .inr ⟨g, cap, cur, rfl, hbg, (hb g rfl).trans hg, hr⟩
theorem own_lt {w : World} {e n : Nat} {v : Value} {xs : List Value} (h : w.ownsRow 0 e 1 v n xs) (k : Nat) (hk : v.ownBlock = some k) : k < w.heap.size := by
  rcases h.2 with ⟨rfl, _⟩ | ⟨g, cap, cur, rfl, _, hg, _⟩
  · simp [Value.ownBlock] at hk
  · have : g = k := by simpa [Value.ownBlock] using hk
    subst this
    exact (Array.getElem?_eq_some_iff.1 hg).1
/-- Rows of two types lie in two blocks. -/
theorem own_apart {w : World} {e e' n n' : Nat} {v v' : Value} {xs xs' : List Value} (h : w.ownsRow 0 e 1 v n xs) (h' : w.ownsRow 0 e' 1 v' n' xs') (hne : e ≠ e') (k : Nat) (hk : v.ownBlock = some k) : v'.ownBlock ≠ some k := by
  rcases h.2 with ⟨rfl, _⟩ | ⟨g, cap, cur, rfl, _, hg, _⟩
  · simp [Value.ownBlock] at hk
  · have : g = k := by simpa [Value.ownBlock] using hk
    subst this
    exact own_ne h' hg (Ne.symm hne)

/-- Bytes were appended: the new row is laid into the box. -/
theorem Sto.put {w w1 : World} {s : Nat} {R : Nat → Prop} {st : St} {bv sv v : Value} {c : List UInt8} (h : Sto w s R st bv sv)
    (ho : w1.ownsRow 0 5 1 v (st.1.length + c.length) (Lib.byteCells st.1 ++ Lib.byteCells c)) (hg : w.grownBy w1 bv.ownBlock) (hm : Moved w bv v) :
    w1.heap[s]? = some (.cells #[bv, sv] 72 (0, 0)) ∧ Sto (w1.setCell ⟨s, 0, none⟩ v) s R (st.1 ++ c, st.2) v sv ∧ Fr R w (w1.setCell ⟨s, 0, none⟩ v) := by
  have hs1 : w1.heap[s]? = some (.cells #[bv, sv] 72 (0, 0)) := (hg.block s h.lt (fun e => own_ne h.bytes h.box (by decide) e.symm)).trans h.box
  have hset : ∀ k, k ≠ s → (w1.setCell ⟨s, 0, none⟩ v).heap[k]? = w1.heap[k]? := fun k hk => Below.heap_setCell _ _ _ _ hk
  have hsz : (w1.setCell ⟨s, 0, none⟩ v).heap.size = w1.heap.size := by simp [World.setCell]
  refine ⟨hs1, ⟨heap_set2 (u := v) hs1, ?_, ?_, ?_, h.sat, h.here, fun k hk => by rw [hsz]; exact Nat.lt_of_lt_of_le (h.base k hk) hg.size⟩, ?_⟩
  · have : w1.ownsRow 0 5 1 v (st.1 ++ c).length (Lib.byteCells (st.1 ++ c)) := by
      rw [List.length_append]
      simpa [Lib.byteCells] using ho
    exact own_kept this (fun k hk => hset k (fun e => own_ne ho hs1 (by decide) (e ▸ hk)))
  · intro k hk hn
    rcases hm with hm | hm
    · exact h.bat k (hm ▸ hk) hn
    · have := hm k hk; have := h.base k hn; omega
  · refine own_kept h.strs (fun k hk => ?_)
    rw [hset k (fun e => own_ne h.strs h.box (by decide) (e ▸ hk)), hg.block k (own_lt h.strs k hk) (fun e => own_apart h.strs h.bytes (by decide) k hk e.symm)]
  · refine ⟨hg.os, hg.tape, hg.output, by rw [hsz]; exact hg.size, fun k hk => ?_⟩
    rw [hset k (fun e => h.here (e ▸ hk)), hg.block k (h.base k hk) (fun e => h.bat k e.symm hk)]

/-- A block is made behind. -/
theorem Sto.alloc {w : World} {s : Nat} {R : Nat → Prop} {st : St} {bv sv : Value} (h : Sto w s R st bv sv) (o : Obj) : Sto (w.alloc o) s R st bv sv :=
  ⟨(Below.heap_alloc w o s h.lt).trans h.box, own_kept h.bytes (fun k hk => Below.heap_alloc w o k (own_lt h.bytes k hk)), h.bat, own_kept h.strs (fun k hk => Below.heap_alloc w o k (own_lt h.strs k hk)), h.sat, h.here, fun k hk => by have := h.base k hk; simp; omega⟩
theorem Sto.drew {w : World} {s : Nat} {R : Nat → Prop} {st : St} {bv sv : Value} (h : Sto w s R st bv sv) : Sto w.drew s R st bv sv := ⟨h.box, h.bytes, h.bat, h.strs, h.sat, h.here, h.base⟩
end Go.Proofs.Qxb6618929a
