/-
  zzBuildStates.
-/
import Derived.Test.Qxb6618929aBuild3
namespace Go.Proofs.Qxb6618929a
open Go Go.RowKit

attribute [local go_sem] qz37 qs37

theorem Try.info56 : (Try.prog.info? 56).map (fun i => (i.zero, i.size, i.bytes)) = some (some (.pointer none), 1, 8) := by kernel_rfl
theorem Try.size50 : (Try.prog.info? 50).map (·.size) = some 24 := by kernel_rfl

/-- A slice of states as they come in, or nil. -/
def ZsAt (w : World) (R : Nat → Prop) (v : Value) (zs : List ZIn) : Prop :=
  ∃ (ao : Option Addr) (cap : Nat), v = .slice ao zs.length cap ∧ (zs.length ≤ 0 ∨ (0 < zs.length ∧ ∃ b off, ao = some ⟨b, off, none⟩ ∧ R b ∧ Hid (∀ i, i < zs.length → ∃ z, zs[i]? = some z ∧ w.rangeAt b (off + i * 24) z.cells ∧ ZAt w R z)))
theorem ZsAt.kept {w w' : World} {R : Nat → Prop} {v : Value} {zs : List ZIn} (h : ZsAt w R v zs) (hs : Same R w w') : ZsAt w' R v zs := by
  obtain ⟨ao, cap, h1, h2⟩ := h
  refine ⟨ao, cap, h1, ?_⟩
  rcases h2 with h2 | ⟨h3, b, off, h4, h6, h5⟩
  · exact .inl h2
  · exact .inr ⟨h3, b, off, h4, h6, fun i hi => by
      obtain ⟨z, p1, p2, p3⟩ := h5.out i hi
      exact ⟨z, p1, hs.range h6 p2, p3.kept hs⟩⟩

/-- A built state in block g with her turn. -/
def BuiltZ (w : World) (R : Nat → Prop) (g : Nat) (z : ZIn) : Prop := ∃ vES vEB vT vB vTA vS, StateAt w R g z.d vES vEB vT vB vTA vS ∧ TurnAt w R vT z.turn
theorem BuiltZ.kept {w w' : World} {R : Nat → Prop} {g : Nat} {z : ZIn} (h : BuiltZ w R g z) (hs : Same R w w') : BuiltZ w' R g z := by
  obtain ⟨a, b, c, e, f, i, h1, h2⟩ := h
  exact ⟨a, b, c, e, f, i, h1.kept hs, h2.kept hs⟩
theorem BuiltZ.more {w : World} {R R' : Nat → Prop} {g : Nat} {z : ZIn} (h : BuiltZ w R g z) (hr : ∀ k, R k → R' k) : BuiltZ w R' g z := by
  obtain ⟨a, b, c, e, f, i, h1, h2⟩ := h
  exact ⟨a, b, c, e, f, i, h1.more hr, h2.more hr⟩
/-- A slice of pointers to built states. -/
def BuiltAll (w : World) (R : Nat → Prop) (v : Value) (zs : List ZIn) : Prop :=
  ∃ (ao : Option Addr) (cap : Nat), v = .slice ao zs.length cap ∧ (zs.length ≤ 0 ∨ (0 < zs.length ∧ ∃ b off, ao = some ⟨b, off, none⟩ ∧ R b ∧ Hid (∀ i, i < zs.length → ∃ z g, zs[i]? = some z ∧ w.cell? ⟨b, off + i, none⟩ = some (.pointer (some ⟨g, 0, none⟩)) ∧ BuiltZ w R g z)))
theorem BuiltAll.kept {w w' : World} {R : Nat → Prop} {v : Value} {zs : List ZIn} (h : BuiltAll w R v zs) (hs : Same R w w') : BuiltAll w' R v zs := by
  obtain ⟨ao, cap, h1, h2⟩ := h
  refine ⟨ao, cap, h1, ?_⟩
  rcases h2 with h2 | ⟨h3, b, off, h4, h6, h5⟩
  · exact .inl h2
  · exact .inr ⟨h3, b, off, h4, h6, fun i hi => by
      obtain ⟨z, g, p1, p2, p3⟩ := h5.out i hi
      exact ⟨z, g, p1, (hs.cell (p := ⟨b, off + i, none⟩) h6).trans p2, p3.kept hs⟩⟩
theorem BuiltAll.more {w : World} {R R' : Nat → Prop} {v : Value} {zs : List ZIn} (h : BuiltAll w R v zs) (hr : ∀ k, R k → R' k) : BuiltAll w R' v zs := by
  obtain ⟨ao, cap, h1, h2⟩ := h
  refine ⟨ao, cap, h1, ?_⟩
  rcases h2 with h2 | ⟨h3, b, off, h4, h6, h5⟩
  · exact .inl h2
  · exact .inr ⟨h3, b, off, h4, hr _ h6, fun i hi => by
      obtain ⟨z, g, p1, p2, p3⟩ := h5.out i hi
      exact ⟨z, g, p1, p2, p3.more hr⟩⟩
theorem BuiltAll.states {w : World} {R : Nat → Prop} {v : Value} {zs : List ZIn} (h : BuiltAll w R v zs) : StatesAt w R v (zs.map (·.d)) := by
  obtain ⟨ao, cap, h1, h2⟩ := h
  refine ⟨ao, cap, by rw [List.length_map]; exact h1, ?_⟩
  rw [List.length_map]
  rcases h2 with h2 | ⟨h3, b, off, h4, h6, h5⟩
  · exact .inl h2
  · exact .inr ⟨h3, b, off, h4, h6, fun i hi => by
      obtain ⟨z, g, p1, p2, vES, vEB, vT, vB, vTA, vS, p3, _⟩ := h5.out i hi
      exact ⟨z.d, g, by rw [List.getElem?_map, p1]; rfl, p2, vES, vEB, vT, vB, vTA, vS, p3⟩⟩

/-- The row of pointers behind k rounds. -/
def OutInv (w wr : World) (n k : Nat) (zs : List ZIn) : Prop :=
  Below w.heap.size w wr ∧ w.heap.size < wr.heap.size ∧ (∃ arr : Array Value, wr.heap[w.heap.size]? = some (.cells arr 56 (0, 0)) ∧ arr.size = n) ∧
    ∀ j, j < k → ∃ z g, zs[j]? = some z ∧ wr.cell? ⟨w.heap.size, j, none⟩ = some (.pointer (some ⟨g, 0, none⟩)) ∧ BuiltZ wr (fun i => w.heap.size < i ∧ i < wr.heap.size) g z
theorem OutInv.step {w wr w2 : World} {n k : Nat} {zs : List ZIn} {z : ZIn} {g : Nat} (h : OutInv w wr n k zs) (hk : k < n) (hz : zs[k]? = some z) (hb : Below wr.heap.size wr w2) (hbu : BuiltZ w2 (Fresh wr w2) g z) :
    (∃ u, w2.cell? ⟨w.heap.size, k, none⟩ = some u) ∧ w2.frozen? ⟨w.heap.size, k, none⟩ = false ∧ OutInv w (w2.setCell ⟨w.heap.size, k, none⟩ (.pointer (some ⟨g, 0, none⟩))) n (k + 1) zs := by
  obtain ⟨h1, h0, ⟨arr, h2, h3⟩, h4⟩ := h
  have hsz := hb.size
  have h2' : w2.heap[w.heap.size]? = some (.cells arr 56 (0, 0)) := (hb.block _ h0).trans h2
  have hset : ∀ i, i ≠ w.heap.size → (w2.setCell ⟨w.heap.size, k, none⟩ (.pointer (some ⟨g, 0, none⟩))).heap[i]? = w2.heap[i]? := fun i hi => Below.heap_setCell _ _ _ _ hi
  have hss : (w2.setCell ⟨w.heap.size, k, none⟩ (.pointer (some ⟨g, 0, none⟩))).heap.size = w2.heap.size := by simp [World.setCell]
  have hcell : ∀ j, w2.cell? ⟨w.heap.size, j, none⟩ = arr[j]? := fun j => cell_of_row w2 w.heap.size j arr 56 (0, 0) h2'
  have hnew := heap_setCell_same w2 w.heap.size k arr 56 (.pointer (some ⟨g, 0, none⟩)) h2'
  have hsame : ∀ R : Nat → Prop, (∀ i, R i → w.heap.size < i) → Same R w2 (w2.setCell ⟨w.heap.size, k, none⟩ (.pointer (some ⟨g, 0, none⟩))) := fun R hR i hi => hset i (by have := hR i hi; omega)
  refine ⟨⟨arr[k]'(by omega), by rw [hcell]; exact Array.getElem?_eq_getElem _⟩, frozen_of_row w2 w.heap.size k arr 56 h2', (h1.trans (hb.mono (Nat.le_of_lt h0))).setCell (Nat.le_refl _) _, by rw [hss]; omega, ⟨_, hnew, by simp [h3]⟩, fun j hj => ?_⟩
  by_cases e : j = k
  · subst e
    refine ⟨z, g, hz, ?_, (hbu.kept (hsame _ (fun i hi => by have := hi.1; omega))).more (fun i hi => ⟨by have := hi.1; omega, by rw [hss]; exact hi.2⟩)⟩
    rw [cell_of_row _ w.heap.size j _ 56 (0, 0) hnew]
    simp [h3, hk]
  · obtain ⟨z', g', q1, q2, q3⟩ := h4 j (by omega)
    refine ⟨z', g', q1, ?_, ((q3.kept (Below.sameOf hb (fun i hi => hi.2))).kept (hsame _ (fun i hi => hi.1))).more (fun i hi => ⟨hi.1, by rw [hss]; omega⟩)⟩
    have hq : w2.cell? ⟨w.heap.size, j, none⟩ = some (.pointer (some ⟨g', 0, none⟩)) := (hb.cell (p := ⟨w.heap.size, j, none⟩) h0).trans q2
    rw [hcell] at hq
    rw [cell_of_row _ w.heap.size j _ 56 (0, 0) hnew, Array.getElem?_setIfInBounds_ne (fun e2 => e e2.symm), hq]
theorem out_made {w wr : World} {n : Nat} {zs : List ZIn} (h : OutInv w wr n zs.length zs) (hn : zs.length = n) : BuiltAll wr (Fresh w wr) (.slice (some ⟨w.heap.size, 0, none⟩) n n) zs := by
  subst hn
  obtain ⟨h1, h0, _, h4⟩ := h
  refine ⟨some ⟨w.heap.size, 0, none⟩, zs.length, rfl, ?_⟩
  by_cases e : 0 < zs.length
  · exact .inr ⟨e, w.heap.size, 0, rfl, ⟨Nat.le_refl _, h0⟩, fun i hi => by
      obtain ⟨z, g, p1, p2, p3⟩ := h4 i hi
      exact ⟨z, g, p1, by rw [Nat.zero_add]; exact p2, p3.more (fun i hi => ⟨Nat.le_of_lt hi.1, hi.2⟩)⟩⟩
  · exact .inl (by omega)

set_option maxHeartbeats 4000000 in
set_option maxRecDepth 100000 in
theorem buildStates (v : Value) (zs : List ZIn) (R : Nat → Prop) (w : World) (h : ZsAt w R v zs) (hR : ∀ k, R k → k < w.heap.size) (ok : ∀ z ∈ zs, ZOk z) (hn : zs.length ≤ 4097) :
    Calls Try.prog 17 #[v] w fun e w' => ∃ v', e = .returned v' ∧ BuiltAll w' (Fresh w w') v' zs ∧ Below w.heap.size w w' := by
  obtain ⟨i0, hi, hz0, hz1, hz2⟩ := info_parts Try.info56
  obtain ⟨ao, cap, rfl, h2⟩ := h
  cases ao with
  | none =>
    have h0 : zs.length ≤ 0 := by
      rcases h2 with h2 | ⟨_, b, off, h, _⟩
      · exact h2
      · cases h
    go_enter Try.func17, Try.ntmps17
    go_wp2
    go_ret
    exact ⟨_, rfl, ⟨none, 0, by rw [show zs.length = 0 by omega]; rfl, .inl h0⟩, Below.refl _ _⟩
  | some a =>
    have HR := hd hR
    have HOK := hd ok
    clear hR ok
    have key : zs.length ≤ 0 ∨ (0 < zs.length ∧ ∃ b off, a = ⟨b, off, none⟩ ∧ R b ∧ Hid (∀ i, i < zs.length → ∃ z, zs[i]? = some z ∧ w.rangeAt b (off + i * 24) z.cells ∧ ZAt w R z)) := by
      rcases h2 with h2 | ⟨h3, b, off, h4, h5⟩
      · exact .inl h2
      · exact .inr ⟨h3, b, off, Option.some.inj h4, h5⟩
    clear h2
    rcases key with h0 | ⟨h0, b, off, rfl, hRb, HC⟩
    all_goals
      go_enter Try.func17, Try.ntmps17
      go_wp2_with (at_make; refine wpList_make_full _ rfl _ _ 42 rfl w.heap.size 56 i0 (.pointer none) 1 Try.underlying42 hi hz0 hz1 _ _ _ _ zs.length rfl rfl rfl rfl (by rw [hz2]; omega) (by unfold maxLen; omega) (Nat.le_refl _) ?_; intro w1 hown hgrow; have hbl : Below w.heap.size w w1 := (Below.refl _ _).grown hgrow (Nat.le_refl _) (fun k h => by cases h); have HBL := hd hbl; have HOWN := hd hown; clear hbl hown hgrow)
      have HI0 : Hid (OutInv w w1 zs.length 0 zs) := by
        rcases HOWN.out.2 with ⟨h, _⟩ | ⟨g, cap, cur, h, _, hg, _, _, hsz1, _⟩
        · simp at h
        · have e1 : g = w.heap.size ∧ cap = zs.length := by
            simp only [Value.slice.injEq, Option.some.injEq, Addr.mk.injEq, and_true, true_and] at h
            exact ⟨h.1.symm, h.2.symm⟩
          obtain ⟨rfl, rfl⟩ := e1
          exact ⟨HBL.out, (Array.getElem?_eq_some_iff.1 hg).1, ⟨cur, hg, by simpa using hsz1⟩, fun j hj => by omega⟩
      go_loopw [4, 12] (fun _ i wr => ∃ k : Nat, k ≤ zs.length ∧ i = .int .i64 k ∧ Hid (OutInv w wr zs.length k zs)) (fun _ i _ => zs.length - (intOf i).toNat)
      case atStart => exact ⟨0, Nat.zero_le _, rfl, HI0⟩
      case round =>
        obtain ⟨k, hk, rfl, HI⟩ := hrel
        by_cases hlt : k < zs.length
        · try (exfalso; omega)
          all_goals
            obtain ⟨z, hzk, hrg, hza⟩ := HC.out k hlt
            have hsm := Below.sameOf HI.out.1 HR.out
            have HRG := hd (hsm.range hRb hrg)
            have HB := hd (buildState z R wr (hza.kept hsm) (fun i hi => Nat.lt_of_lt_of_le (HR.out i hi) HI.out.1.size) (HOK.out z (List.mem_of_getElem? hzk)))
            have HZK := hd hzk
            have HLEN : Hid ((Try.prog.info? 50).map (·.size) = some z.cells.length) := Try.size50
            generalize hcl : z.cells = cl at HRG HB HLEN
            clear hrg hza hsm hzk hcl
            go_wp2_with (first
              | (go_at_call 27; refine HB.out.mono ?_; rintro e w2 ⟨g, vES, vEB, vT, vB, vTA, vS, rfl, p1, p2, p3⟩; obtain ⟨⟨u, hu⟩, hfu, HI2⟩ := HI.out.step hlt HZK.out p3 ⟨vES, vEB, vT, vB, vTA, vS, p1, p2⟩; have HI2 := hd HI2; clear p1 p2 p3)
              | (refine wpList_load_mid rfl 50 _ rfl b (off + k * 24) rfl cl _ HRG.out Try.underlying50 rfl HLEN.out ?_))
            go_roundw
            case rel => exact ⟨k + 1, by omega, by go_num, HI2⟩
            case measure => simp [intOf]; omega
        · have hkn : k = zs.length := by omega
          subst hkn
          have HSM := hd (And.intro (out_made HI.out rfl) HI.out.1)
          go_wp2
          go_ret
          exact ⟨_, rfl, HSM.out⟩
end Go.Proofs.Qxb6618929a
