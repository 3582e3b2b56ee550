/-
  storer.string.
-/
import Derived.Test.Qxb6618929aCrds
namespace Go.Proofs.Qxb6618929a
open Go Go.RowKit

theorem Try.info9 : (Try.prog.info? 9).map (fun i => (i.zero, i.size, i.bytes)) = some (some (.string ⟨#[]⟩), 1, 16) := by kernel_rfl

theorem heap_set2b {w : World} {s : Nat} {a b u : Value} {t : TypeId} (h : w.heap[s]? = some (.cells #[a, b] t (0, 0))) : (w.setCell ⟨s, 1, none⟩ u).heap[s]? = some (.cells #[a, u] t (0, 0)) := by
  simpa using heap_setCell_same w s 1 #[a, b] t u h

/-- A string was appended: the new row is laid into the box. -/
theorem Sto.putS {w w1 : World} {s : Nat} {R : Nat → Prop} {st : St} {bv sv v : Value} {t : List UInt8} (h : Sto w s R st bv sv)
    (ho : w1.ownsRow 0 9 1 v (st.2.length + 1) (st.2.map encS ++ [encS t])) (hg : w.grownBy w1 sv.ownBlock) (hm : Moved w sv v) :
    w1.heap[s]? = some (.cells #[bv, sv] 72 (0, 0)) ∧ Sto (w1.setCell ⟨s, 1, none⟩ v) s R (st.1, st.2 ++ [t]) bv v ∧ Fr R w (w1.setCell ⟨s, 1, none⟩ v) := by
  have hs1 : w1.heap[s]? = some (.cells #[bv, sv] 72 (0, 0)) := (hg.block s h.lt (fun e => own_ne h.strs h.box (by decide) e.symm)).trans h.box
  have hset : ∀ k, k ≠ s → (w1.setCell ⟨s, 1, none⟩ v).heap[k]? = w1.heap[k]? := fun k hk => Below.heap_setCell _ _ _ _ hk
  have hsz : (w1.setCell ⟨s, 1, none⟩ v).heap.size = w1.heap.size := by simp [World.setCell]
  refine ⟨hs1, ⟨heap_set2b (u := v) hs1, ?_, h.bat, ?_, ?_, h.here, fun k hk => by rw [hsz]; exact Nat.lt_of_lt_of_le (h.base k hk) hg.size⟩, ?_⟩
  · refine own_kept h.bytes (fun k hk => ?_)
    rw [hset k (fun e => own_ne h.bytes h.box (by decide) (e ▸ hk)), hg.block k (own_lt h.bytes k hk) (fun e => own_apart h.bytes h.strs (by decide) k hk e.symm)]
  · have : w1.ownsRow 0 9 1 v (st.2 ++ [t]).length ((st.2 ++ [t]).map encS) := by simpa using ho
    exact own_kept this (fun k hk => hset k (fun e => own_ne ho hs1 (by decide) (e ▸ hk)))
  · intro k hk hn
    rcases hm with hm | hm
    · exact h.sat k (hm ▸ hk) hn
    · have := hm k hk; have := h.base k hn; omega
  · refine ⟨hg.os, hg.tape, hg.output, by rw [hsz]; exact hg.size, fun k hk => ?_⟩
    rw [hset k (fun e => h.here (e ▸ hk)), hg.block k (h.base k hk) (fun e => h.sat k e.symm hk)]

theorem put_oneS {w wb w1 : World} {n : Nat} {sv v : Value} {g cap H : Nat} {o : Obj} (hwb : wb = w.alloc o) (hv : v = .slice (some ⟨g, 0, none⟩) (n + 1) cap)
    (hgrow : wb.grownBy w1 sv.ownBlock) (hat : sv.ownBlock = some g ∨ g = H) (hH : H = w.heap.size + 1) : w.grownBy w1 sv.ownBlock ∧ Moved w sv v := by
  subst hwb; subst hH; subst hv
  refine ⟨⟨hgrow.os, hgrow.tape, hgrow.output, by have := hgrow.size; simp at this; omega, fun k hk hne => (hgrow.block k (by simp; omega) hne).trans (Below.heap_alloc w o k hk)⟩, ?_⟩
  rcases hat with h | h
  · left; rw [h]; rfl
  · right; intro k hk; simp [Value.ownBlock] at hk; omega

theorem putStr_of {ts : List (List UInt8)} {t : List UInt8} (b : List UInt8) :
    (∃ i : Nat, i < ts.length ∧ whereIs ts t = i ∧ putStr t (b, ts) = (b ++ Lib.uvarint i, ts)) ∨ (whereIs ts t = -1 ∧ putStr t (b, ts) = (b ++ Lib.uvarint ts.length ++ Lib.uvarint t.length ++ t, ts ++ [t])) := by
  unfold whereIs putStr
  cases h : ts.findIdx? (· == t) with
  | some i => exact .inl ⟨i, (List.findIdx?_eq_some_iff_getElem.1 h).1, rfl, rfl⟩
  | none => exact .inr ⟨rfl, rfl⟩

theorem own_forms {w : World} {e n : Nat} {v : Value} {xs : List Value} (h : w.ownsRow 0 e 1 v n xs) : v = .slice none 0 0 ∨ ∃ g cap, v = .slice (some ⟨g, 0, none⟩) n cap := by
  rcases h.2 with ⟨hb, hz⟩ | ⟨g, cap, cur, hb, hz⟩
  · exact .inl hb
  · exact .inr ⟨g, cap, hb⟩

/-- The string is known already. -/
theorem s_string_known (s : Nat) (R : Nat → Prop) (st : St) (bv sv : Value) (p : Addr) (t : List UInt8) (i : Nat) (w : World) (h : Sto w s R st bv sv) (hlim : st.1.length + 10 ≤ 140737488355328) (hn : st.2.length ≤ 1073741824)
    (hc : w.cell? p = some (encS t)) (hi : i < st.2.length) (hw : whereIs st.2 t = i) :
    Calls Try.prog 64 #[.pointer (some ⟨s, 0, none⟩), .pointer (some p)] w fun e w' => Step s R w (st.1 ++ Lib.uvarint i, st.2) e w' := by
  have hcb : w.cell? ⟨s, 0, none⟩ = some bv := by simpa using cell_of_row w s 0 #[bv, sv] 72 (0, 0) h.box
  have hcs : w.cell? ⟨s, 1, none⟩ = some sv := by simpa using cell_of_row w s 1 #[bv, sv] 72 (0, 0) h.box
  have CI := hd (index69 sv st.2 t w h.strs (by omega))
  rw [hw] at CI
  have HV := hd (appendUvarint 0 st.1.length i (by omega) bv _ w h.bytes (Nat.zero_le _) hlim)
  have hl := uvarint_pos i
  have HS := hd h
  have hfb := own_forms h.bytes
  have hfs := own_forms h.strs
  clear h hw
  unfold encS at hc CI
  rcases hfb with rfl | ⟨gb, cb, rfl⟩ <;> rcases hfs with rfl | ⟨gs, csz, rfl⟩
  all_goals
    go_enter Try.func64, Try.ntmps64
    go_wp2_with (first
      | (go_at_call 70; refine HV.out.mono ?_; rintro e w1 ⟨v', rfl, ho, hg, hm⟩; obtain ⟨g', cap', hv, hq1, hq2⟩ := ho.form (by omega); clear hq1 hq2; obtain ⟨hs1, hst, hfr⟩ := HS.out.put ho hg hm; have hc1 := cell_of_row w1 s 0 _ 72 (0, 0) hs1; have hf1 := frozen_of_row w1 s 0 _ 72 hs1; have HR := hd (And.intro hst hfr); clear ho hg hm hs1 hst hfr; subst hv)
      | (go_at_call 69; refine CI.out.mono ?_; rintro e w' ⟨rfl, hw⟩; obtain rfl := hw.symm))
    refine bodyPost_ret (v := .tuple #[]) (by simp [results, Try.f64]) rfl ?_
    exact ⟨rfl, ⟨_, _, HR.out.1⟩, HR.out.2⟩

theorem strCells_enc (t : List UInt8) : Lib.strCells ⟨t.toArray⟩ = Lib.byteCells t := by simp [Lib.strCells, Lib.byteCells]

end Go.Proofs.Qxb6618929a
