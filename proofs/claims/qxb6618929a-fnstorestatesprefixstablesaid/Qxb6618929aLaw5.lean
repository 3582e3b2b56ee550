/-
  FnStoreStatesPrefixStable: the walk.
-/
import Derived.Test.Qxb6618929aBytes20
import Derived.Test.Qxb6618929aMatch
import Derived.Test.Qxb6618929aFrame
namespace Go.Proofs.Qxb6618929a
open Go Go.RowKit

attribute [local go_sem] qz37 qs37

theorem Fr.below {B : Nat} {R : Nat → Prop} {w w' : World} (h : Fr R w w') (hr : ∀ k, k < B → R k) : Below B w w' := ⟨h.os, h.tape, h.output, h.size, fun k hk => h.block k (hr k hk)⟩
theorem row_of_own {w : World} {v : Value} {l : List UInt8} (h : w.ownsRow 0 5 1 v l.length (Lib.byteCells l)) : RowAt w (In w) v l := by
  rcases h.2 with ⟨rfl, h0⟩ | ⟨g, cap, cur, rfl, _, hg, _⟩
  · exact ⟨none, 0, by rw [h0], .inl (Nat.le_of_eq h0)⟩
  · exact (cards_of_own h rfl (R := In w) (Array.getElem?_eq_some_iff.1 hg).1).row
theorem RowAt.up {w w' : World} {v : Value} {l : List UInt8} (h : RowAt w (In w) v l) (hb : Below w.heap.size w w') : RowAt w' (In w') v l := by
  obtain ⟨ao, cap, h1, h2⟩ := h
  refine ⟨ao, cap, h1, ?_⟩
  rcases h2 with h2 | ⟨h0, b, off, h3, h4, h5⟩
  · exact .inl h2
  · exact .inr ⟨h0, b, off, h3, Nat.lt_of_lt_of_le h4 hb.size, fun j hj => (hb.cell (p := ⟨b, off + j, none⟩) h4).trans (h5.out j hj)⟩
theorem BuiltAll.up {w w' : World} {v : Value} {zs : List ZIn} (h : BuiltAll w (In w) v zs) (hb : Below w.heap.size w w') : BuiltAll w' (In w') v zs :=
  (h.kept (Below.sameOf hb (fun _ h => h))).more (fun _ h => Nat.lt_of_lt_of_le h hb.size)
theorem ZsAt.more {w : World} {R R' : Nat → Prop} {v : Value} {zs : List ZIn} (h : ZsAt w R v zs) (hr : ∀ k, R k → R' k) : ZsAt w R' v zs := by
  obtain ⟨ao, cap, h1, h2⟩ := h
  refine ⟨ao, cap, h1, ?_⟩
  rcases h2 with h2 | ⟨h3, b, off, h4, h6, h5⟩
  · exact .inl h2
  · refine .inr ⟨h3, b, off, h4, hr _ h6, fun i hi => ?_⟩
    obtain ⟨z, p1, p2, p3⟩ := h5.out i hi
    refine ⟨z, p1, p2, p3.eseat.more hr, p3.eboard.more hr, p3.legal.more hr, p3.board.more hr, p3.toAct.more hr, p3.seats.more hr⟩
theorem ZsAt.take {w : World} {R : Nat → Prop} {ao : Option Addr} {cap : Nat} {zs : List ZIn} (h : ZsAt w R (.slice ao zs.length cap) zs) {k : Nat} (hk : k ≤ zs.length) (c : Nat) : ZsAt w R (.slice ao k c) (zs.take k) := by
  have hlen : (zs.take k).length = k := by simp; omega
  obtain ⟨ao', cap', h1, h2⟩ := h
  obtain ⟨rfl, rfl⟩ : ao = ao' ∧ cap = cap' := by injection h1 with e1 e2 e3; exact ⟨e1, e3⟩
  refine ⟨ao, c, by rw [hlen], ?_⟩
  rw [hlen]
  by_cases h0 : 0 < k
  · rcases h2 with h2 | ⟨h3, b, off, h4, h6, h5⟩
    · omega
    · refine .inr ⟨h0, b, off, h4, h6, fun i hi => ?_⟩
      obtain ⟨z, p1, p2⟩ := h5.out i (by omega)
      exact ⟨z, by rw [List.getElem?_take, if_pos hi]; exact p1, p2⟩
  · exact .inl (by omega)

/-- What lies where behind the calls. -/
structure Laid (w wc : World) (bl : List UInt8) (zs : List ZIn) (k : Nat) (v7 v8 v9 v10 v11 : Value) : Prop where
  below : Below w.heap.size w wc
  pre : RowAt wc (In wc) v7 bl
  built : BuiltAll wc (In wc) v8 zs
  whole : RowAt wc (In wc) v9 (bl ++ stored (zs.map fun z : ZIn => z.d))
  alone : RowAt wc (In wc) v10 (stored (zs.map fun z : ZIn => z.d))
  head : RowAt wc (In wc) v11 (bl ++ stored ((zs.map fun z : ZIn => z.d).take k))

/-- A row at index j. -/
theorem RowAt.at {w : World} {R : Nat → Prop} {a : Option Addr} {n c : Nat} {l : List UInt8} (h : RowAt w R (.slice a n c) l) {j : Nat} (hj : j < l.length) : ∃ b o, a = some ⟨b, o, none⟩ ∧ w.cell? ⟨b, o + j, none⟩ = some (.int .u8 (l.getD j 0).toNat) := by
  obtain ⟨ao, cap, h1, h2⟩ := h
  obtain rfl : a = ao := by injection h1
  rcases h2 with h2 | ⟨_, b, off, h3, _, h5⟩
  · omega
  · exact ⟨b, off, h3, h5.out j hj⟩

theorem stored_len (ds : List StateD) (ok : ∀ d ∈ ds, StateOk d) (hn : ds.length ≤ 4097) : (stored ds).length ≤ 140737488355328 := by
  have := (lenStates ds [] ([], []) ok (by simp only [List.length_nil]; omega)).1
  unfold stored
  simp only [List.length_nil] at this
  omega
theorem getD_left (a b : List UInt8) (j : Nat) (h : j < a.length) : (a ++ b).getD j 0 = a.getD j 0 := by simp [List.getD, List.getElem?_append_left h]
theorem getD_right (a b : List UInt8) (j : Nat) : (a ++ b).getD (a.length + j) 0 = b.getD j 0 := by rw [List.getD, List.getElem?_append_right (Nat.le_add_right _ _), Nat.add_sub_cancel_left, ← List.getD]

/-- How much the first k states want at the least. -/
def leastTo (zs : List ZIn) (k : Nat) : Nat := ((zs.take k).map fun z => (z.d.seats.getD []).length).sum
theorem leastTo_step {zs : List ZIn} {k : Nat} {z : ZIn} (h : zs[k]? = some z) : leastTo zs (k + 1) = leastTo zs k + (z.d.seats.getD []).length := by
  unfold leastTo
  rw [List.take_add_one, h]
  simp
theorem leastTo_le {zs : List ZIn} (ok : ∀ z ∈ zs, ZOk z) : ∀ k, leastTo zs k ≤ k * 10923
  | 0 => by simp [leastTo]
  | k + 1 => by
    have := leastTo_le ok k
    cases h : zs[k]? with
    | none =>
      have h1 : zs.length ≤ k := List.getElem?_eq_none_iff.1 h
      unfold leastTo at this ⊢
      rw [List.take_of_length_le h1] at this
      rw [List.take_of_length_le (Nat.le_succ_of_le h1)]
      exact Nat.le_trans this (Nat.mul_le_mul_right _ (Nat.le_succ _))
    | some z =>
      have h1 := (ok z (List.mem_of_getElem? h)).state.seats.many
      rw [leastTo_step h]
      omega
theorem leastTo_all (zs : List ZIn) : 20 * zs.length + leastTo zs zs.length = least (zs.map fun z : ZIn => z.d) := by
  unfold leastTo least
  rw [List.take_length]
  induction zs with
  | nil => rfl
  | cons z zs ih => simp only [List.map_cons, List.sum_cons, List.length_cons] at ih ⊢; omega

def AnyWorld (_ : World) : Prop := True

set_option linter.unusedSimpArgs false in
set_option maxHeartbeats 20000000 in
set_option maxRecDepth 100000 in
theorem law5 (vb : Value) (ao : Option Addr) (cap : Nat) (kk : Int) (bs : Option (List UInt8)) (zs : List ZIn) (w : World) (hb : CardsAt w (In w) vb bs) (hbl : (bs.getD []).length ≤ 9223372036854775807)
    (hn : ao = none → cap = 0) (hc : zs.length ≤ cap) (h : ZsAt w (In w) (.slice ao zs.length cap) zs) (hzl : zs.length ≤ 9223372036854775807) (hlen : ∀ z ∈ zs, ZLen z) (hr : ∀ z ∈ zs, ZRange z) (hk : Range kk) :
    Calls Try.prog 5 #[vb, .slice ao zs.length cap, .int .i64 kk] w fun e w' => e = .returned (.bool true) ∧ Below w.heap.size w w' := by
  obtain ⟨bo, bn, bc, hvb⟩ := cards_form hb
  subst hvb
  have HB := hd hb
  have HZ := hd h
  have HR := hd hr
  have H20 := hd (zzBytes20 (.slice bo bn bc) (.slice ao zs.length cap) bs zs kk (In w) (In w) w hb hbl h hzl hlen)
  have H14 := hd (statesBytes (.slice bo bn bc) (.slice ao zs.length cap) bs zs (In w) (In w) w hb hbl h hzl hlen)
  have hk0 := hk.1
  have hk1 := hk.2
  clear hb h hlen hr hk hbl
  go_enter Try.func5, Try.ntmps5
  go_upto_if 22 with (go_at_call 20; refine H20.out.mono ?_; rintro e w' ⟨⟨r, rfl⟩, hw⟩; obtain rfl := hw.symm)
  cases r with
  | false =>
    go_wp2
    go_ret
    exact ⟨rfl, Below.refl _ _⟩
  | true =>
    go_upto_if 26 with (go_at_call 14; refine H14.out.mono ?_; rintro e w' ⟨⟨r, rfl, h0, h1, HS⟩, hw⟩; obtain rfl := hw.symm)
    by_cases hbig : 1048576 < r
    · have d1 : decide ((1048576 : Int) < r) = true := by simp; omega
      go_wp2
      go_ret
      exact ⟨rfl, Below.refl _ _⟩
    have d1 : decide ((1048576 : Int) < r) = false := by simp; omega
    by_cases hneg : kk < 0
    · have d2 : decide (kk < 0) = true := by simp; omega
      go_wp2
      go_ret
      exact ⟨rfl, Below.refl _ _⟩
    have d2 : decide (kk < 0) = false := by simp; omega
    by_cases hmuch : (zs.length : Int) < kk
    · have d3 : decide ((zs.length : Int) < kk) = true := by simp; omega
      go_wp2
      go_ret
      exact ⟨rfl, Below.refl _ _⟩
    have d3 : decide ((zs.length : Int) < kk) = false := by simp; omega
    obtain ⟨k, rfl⟩ : ∃ k : Nat, kk = k := ⟨kk.toNat, by omega⟩
    have hkz : k ≤ zs.length := by omega
    obtain ⟨s1, s2, s3⟩ := HS.out (by omega)
    have HOK : Hid (∀ z ∈ zs, ZOk z) := fun z hz => (s3 z hz).ok (HR.out z hz)
    have HSO : Hid (∀ d ∈ (zs.map fun z : ZIn => z.d), StateOk d) := fun d hd => by
      obtain ⟨z, hz, rfl⟩ := List.mem_map.1 hd
      exact (HOK.out z hz).state
    have hzn : zs.length ≤ 4096 := by omega
    clear HS s2 s3 HR H20 H14 h0 h1
    have HC1 := hd (cloneBytes (.slice bo bn bc) bs (In w) w HB.out (Nat.le_succ_of_le s1))
    go_upto_region 8 with (go_at_call 15; refine HC1.out.mono ?_; rintro e W1 ⟨v7, rfl, o7, n7, b1⟩)
    clear d1 d2 d3 hneg hmuch hbig
    have HO7 := hd (row_of_own o7)
    have HB1 := hd b1
    have HC2 := hd (buildStates (.slice ao zs.length cap) zs (In w) W1 (HZ.out.kept (Below.sameOf b1 (fun _ h => h))) (fun i hi => Nat.lt_of_lt_of_le hi b1.size) HOK.out (by omega))
    clear HC1 o7 n7 b1
    go_upto_region 9 with (go_at_call 17; refine HC2.out.mono ?_; rintro e W2 ⟨v8, rfl, u8, b2⟩)
    have HU8 : Hid (BuiltAll W2 (In W2) v8 zs) := u8.more (fun i hi => hi.2)
    have HB2 := hd b2
    have HW2 := hd (below_chain HB1.out b2)
    have HC1 := hd (cloneBytes (.slice bo bn bc) bs (In w) W2 (HB.out.kept (Below.sameOf HW2.out (fun _ h => h))) (Nat.le_succ_of_le s1))
    clear HC2 u8 b2
    go_upto_region 10 with (first
      | (go_at_call 16; refine HC3.out.mono ?_; rintro e W4 ⟨v9, rfl, o9, n9, f9⟩)
      | (go_at_call 15; refine HC1.out.mono ?_; rintro e W3 ⟨v40, rfl, o40, n40, b3⟩; have HB3 := hd b3; have HC3 := hd (storeStates (In W2) v40 v8 (bs.getD []) (zs.map fun z : ZIn => z.d) W3 o40 (Nat.le_succ_of_le s1) (fun i hi => Nat.lt_of_lt_of_le hi b3.size) (fun i hi => Nat.not_lt.2 (n40 i hi)) (HU8.out.kept (Below.sameOf b3 (fun _ h => h))).states HSO.out (by simp; omega)); clear o40 n40 b3 HC1))
    have HO9 := hd (row_of_own o9)
    have HB4 : Hid (Below W2.heap.size W2 W4) := HB3.out.trans (f9.below (fun _ h => h))
    have HW4 := hd (below_chain HW2.out HB4.out)
    have HC1 := hd (buildStates (.slice ao zs.length cap) zs (In w) W4 (HZ.out.kept (Below.sameOf HW4.out (fun _ h => h))) (fun i hi => Nat.lt_of_lt_of_le hi HW4.out.size) HOK.out (by omega))
    clear HC3 o9 n9 f9 HB3
    go_upto_region 11 with (first
      | (go_at_call 16; refine HC3.out.mono ?_; rintro e W6 ⟨v10, rfl, o10, n10, f10⟩)
      | (go_at_call 17; refine HC1.out.mono ?_; rintro e W5 ⟨v44, rfl, u44, b5⟩; have HB5 := hd b5; go_loud (have HC3 := hd (storeStates (In W5) (.slice none 0 0) v44 [] (zs.map fun z : ZIn => z.d) W5 (World.ownsRow_nil _ 0 5 1) (Nat.zero_le _) (fun i hi => hi) (fun i hi => by simp [Value.ownBlock] at hi) (u44.more (R' := In W5) (fun i hi => hi.2)).states HSO.out (by simp; omega))); clear u44 b5 HC1))
    rw [List.nil_append] at o10
    have HO10 := hd (row_of_own o10)
    have HB6 : Hid (Below W4.heap.size W4 W6) := below_chain HB5.out (f10.below (fun _ h => h))
    have HW6 := hd (below_chain HW4.out HB6.out)
    have HW6d : Hid (Below w.heap.size w W6.drew) := HW6.out.drew
    have HC1 := hd (cloneBytes (.slice bo bn bc) bs (In w) W6.drew (HB.out.kept (Below.sameOf HW6d.out (fun _ h => h))) (Nat.le_succ_of_le s1))
    clear HC3 o10 n10 f10 HB5
    go_cut [11] (fun v11 wc => Hid (Laid w wc (bs.getD []) zs k v7 v8 v9 v10 v11))
    case first => as_aux_lemma =>
      have hkc : k ≤ cap := Nat.le_trans hkz hc
      have HZ6 : Hid (∀ w', Below w.heap.size w w' → ZsAt w' (In w) (.slice ao k cap) (zs.take k)) := fun w' hb' => (HZ.out.take hkz cap).kept (Below.sameOf hb' (fun _ h => h))
      have HOT : Hid (∀ z ∈ zs.take k, ZOk z) := fun z hz => HOK.out z (List.mem_of_mem_take hz)
      have HTD : Hid ((zs.map fun z : ZIn => z.d).take k = (zs.take k).map fun z : ZIn => z.d) := List.map_take.symm
      have HST : Hid (∀ d ∈ ((zs.take k).map fun z : ZIn => z.d), StateOk d) := fun d hd => by
        obtain ⟨z, hz, rfl⟩ := List.mem_map.1 hd
        exact (HOT.out z hz).state
      have hvs : (ao = none ∧ k = 0 ∧ cap = 0) ∨ ∃ a, ao = some a := by
        cases ao with
        | none => exact .inl ⟨rfl, by have := hn rfl; omega, hn rfl⟩
        | some a => exact .inr ⟨a, rfl⟩
      refine wp_region_Z AnyWorld 7 (by kernel_rfl) ?_
      show wpZ _ _ _ _ _ 8 (Array.replicate 8 false) _ _
      refine wpZ_take (i := 0) (v := .slice bo bn bc) [] rfl (by kernel_rfl) (by kernel_rfl) (by kernel_rfl) (by kernel_rfl) (fun _ _ _ h => h) (.inl ⟨rfl, fun w' hS => ?_⟩) trivial ?_
      · go_simp
      try simp only [Act.put, List.setIfInBounds_toArray, List.set_cons_zero, List.set_cons_succ]
      refine wpZ_take (i := 2) (v := .slice ao zs.length cap) [] rfl (by kernel_rfl) (by kernel_rfl) (by kernel_rfl) (by kernel_rfl) (fun _ _ _ h => h) (.inl ⟨rfl, fun w' hS => ?_⟩) trivial ?_
      · go_simp
      try simp only [Act.put, List.setIfInBounds_toArray, List.set_cons_zero, List.set_cons_succ]
      refine wpZ_take (i := 3) (v := .int .i64 k) [] rfl (by kernel_rfl) (by kernel_rfl) (by kernel_rfl) (by kernel_rfl) (fun _ _ _ h => h) (.inl ⟨rfl, fun w' hS => ?_⟩) trivial ?_
      · go_simp
      try simp only [Act.put, List.setIfInBounds_toArray, List.set_cons_zero, List.set_cons_succ]
      refine wpZ_take (i := 4) (v := .slice ao k cap) [] rfl (by kernel_rfl) (by kernel_rfl) (by kernel_rfl) (by kernel_rfl) (fun _ _ _ h => h) (.inl ⟨rfl, fun w' hS => ?_⟩) trivial ?_
      · clear HB HZ HZ6 HC1
        rcases hvs with ⟨rfl, rfl, rfl⟩ | ⟨a, rfl⟩ <;> go_simp
      try simp only [Act.put, List.setIfInBounds_toArray, List.set_cons_zero, List.set_cons_succ]
      refine wpZ_one (i := 1) (by kernel_rfl) (wpOp_want rfl rfl ?_)
      go_simp
      go_at_call 15
      refine HC1.out.mono ?_
      rintro e W7 ⟨v47, rfl, o47, n47, b7⟩
      have HB7 := hd (HW6d.out.trans (b7.mono HW6d.out.size))
      have HB7' := hd b7
      have HC2 := hd (buildStates (.slice ao k cap) (zs.take k) (In w) W7 (HZ6.out W7 HB7.out) (fun i hi => Nat.lt_of_lt_of_le hi HB7.out.size) HOT.out (by simp; omega))
      have HO47 := hd (And.intro o47 n47)
      clear o47 n47 b7
      refine ⟨trivial, ?_⟩
      try simp only [Act.put, List.setIfInBounds_toArray, List.set_cons_zero, List.set_cons_succ]
      refine wpZ_one (i := 5) (by kernel_rfl) (wpOp_want rfl rfl ?_)
      go_simp
      go_at_call 17
      refine HC2.out.mono ?_
      rintro e W8 ⟨v51, rfl, u51, b8⟩
      have HB8 := hd b8
      have HC3 := hd (storeStates (fun i => i < W6.heap.size ∨ (W7.heap.size ≤ i ∧ i < W8.heap.size)) v47 v51 (bs.getD []) ((zs.take k).map fun z : ZIn => z.d) W8 (own_kept HO47.out.1 (fun i hi => b8.block i (own_lt HO47.out.1 i hi))) (Nat.le_succ_of_le s1)
        (fun i hi => by have := b8.size; have h7 := HB7'.out.size; simp only [World.drew] at h7; omega) (fun i hi hn => by have h1 := HO47.out.2 i hi; have h2 := own_lt HO47.out.1 i hi; simp only [World.drew] at h1; omega) (u51.more (fun i hi => .inr hi)).states HST.out (by simp; omega))
      clear u51 b8
      refine ⟨trivial, ?_⟩
      try simp only [Act.put, List.setIfInBounds_toArray, List.set_cons_zero, List.set_cons_succ]
      refine wpZ_one (i := 6) (by kernel_rfl) (wpOp_want rfl rfl ?_)
      go_simp
      go_at_call 16
      refine HC3.out.mono ?_
      rintro e W9 ⟨v11, rfl, o11, n11, f11⟩
      have HB9 : Hid (Below W6.heap.size W6 W9) := by
        have h7 : Below W6.heap.size W6 W7 := (Below.refl W6.heap.size W6).drew.trans HB7'.out
        have h8 : Below W6.heap.size W6 W8 := h7.trans (HB8.out.mono (by have := HB7'.out.size; simp only [World.drew] at this; omega))
        exact h8.trans (f11.below (fun _ h => .inl h))
      have HLD : Hid (Laid w W9 (bs.getD []) zs k v7 v8 v9 v10 v11) := by
        have h4 : Below W4.heap.size W4 W9 := below_chain HB6.out HB9.out
        have h2 : Below W2.heap.size W2 W9 := below_chain HB4.out h4
        refine ⟨below_chain HW6.out HB9.out, HO7.out.up (below_chain HB2.out h2), HU8.out.up h2, HO9.out.up h4, HO10.out.up HB9.out, ?_⟩
        rw [HTD.out]
        exact row_of_own o11
      clear o11 n11 f11
      refine ⟨trivial, ?_⟩
      try simp only [Act.put, List.setIfInBounds_toArray, List.set_cons_zero, List.set_cons_succ]
      refine wpZ_one (i := 7) (by kernel_rfl) (wpOp_want rfl rfl ?_)
      go_simp
      refine wpZ_done (by kernel_rfl) ?_
      try simp only [Act.put, List.setIfInBounds_toArray, List.set_cons_zero, List.set_cons_succ]
      go_wp2
      go_meet
      case rel => exact HLD
    case rest => as_aux_lemma =>
      have HL := hd hcut.out
      clear hcut HC1 HW6d HW6 HB6 HO10 HW4 HB4 HO9 HW2 HB2 HU8 HB1 HO7
      generalize wc = W9 at HL ⊢
      obtain ⟨a7, c7, hv7, -⟩ := HL.out.pre
      obtain ⟨a9, c9, hv9, -⟩ := HL.out.whole
      obtain ⟨a10, c10, hv10, -⟩ := HL.out.alone
      obtain ⟨a11, c11, hv11, -⟩ := HL.out.head
      obtain ⟨a8, c8, hv8, -⟩ := HL.out.built
      subst hv7 hv8 hv9 hv10 hv11
      have hst := stored_len (zs.map fun z : ZIn => z.d) HSO.out (by simp; omega)
      have hls := stored_least (zs.map fun z : ZIn => z.d)
      rw [← leastTo_all] at hls
      have hhd : (bs.getD [] ++ stored ((zs.map fun z : ZIn => z.d).take k)).length ≤ (bs.getD [] ++ stored (zs.map fun z : ZIn => z.d)).length := by
        obtain ⟨c, hc⟩ := stored_prefix (zs.map fun z : ZIn => z.d) k
        rw [hc]
        simp
      have hwl : (bs.getD [] ++ stored (zs.map fun z : ZIn => z.d)).length = (bs.getD []).length + (stored (zs.map fun z : ZIn => z.d)).length := List.length_append
      have HGH : Hid (∀ j, j < (bs.getD [] ++ stored ((zs.map fun z : ZIn => z.d).take k)).length → (bs.getD [] ++ stored ((zs.map fun z : ZIn => z.d).take k)).getD j 0 = (bs.getD [] ++ stored (zs.map fun z : ZIn => z.d)).getD j 0) := fun j hj => by
        obtain ⟨c, hc⟩ := stored_prefix (zs.map fun z : ZIn => z.d) k
        rw [hc, ← List.append_assoc]
        exact (getD_left _ _ j hj).symm
      have HGL : Hid (∀ j, j < (bs.getD []).length → (bs.getD [] ++ stored (zs.map fun z : ZIn => z.d)).getD j 0 = (bs.getD []).getD j 0) := fun j hj => getD_left _ _ j hj
      have HGR : Hid (∀ j, (bs.getD [] ++ stored (zs.map fun z : ZIn => z.d)).getD ((bs.getD []).length + j) 0 = (stored (zs.map fun z : ZIn => z.d)).getD j 0) := fun j => getD_right _ _ j
      have HP := hd HL.out.pre
      have HWH := hd HL.out.whole
      have HA := hd HL.out.alone
      have HH := hd HL.out.head
      have HBU := hd HL.out.built
      have HBL := hd HL.out.below
      clear HL
      generalize hl7 : bs.getD [] = l7 at *
      generalize hl9 : l7 ++ stored (zs.map fun z : ZIn => z.d) = l9 at *
      generalize hl11 : l7 ++ stored ((zs.map fun z : ZIn => z.d).take k) = l11 at *
      generalize hl10 : stored (zs.map fun z : ZIn => z.d) = l10 at *
      clear hl7 hl9 hl11 hl10
      have d1 : ((l9.length : Int) != (l7.length : Int) + (l10.length : Int)) = false := by simp; omega
      have hw9 : l9.length ≤ 140737489403904 := by omega
      clear hwl
      go_wp2
      go_loopw [12, 63] (fun _ i wr => ∃ j : Nat, j ≤ l7.length ∧ i = .int .i64 j ∧ ∃ m, wr = W9.drewN m) (fun _ i _ => l7.length - (intOf i).toNat)
      case atStart => exact ⟨0, Nat.zero_le _, rfl, 0, rfl⟩
      case round => as_aux_lemma =>
        obtain ⟨j, hj, rfl, m, rfl⟩ := hrel
        by_cases hlt : j < l7.length
        · have h97 : j < l9.length := by simp at d1; omega
          obtain ⟨b7, o7, rfl, e7⟩ := HP.out.at hlt
          obtain ⟨b9, o9, rfl, e9⟩ := HWH.out.at h97
          rw [HGL.out j hlt] at e9
          generalize l7.getD j 0 = x at e7 e9
          go_wp2
          go_quiet (fail)
          go_wp2
          go_roundw
          case rel => exact ⟨j + 1, by omega, by go_num, _, rfl⟩
          case measure => simp [intOf]; omega
        · obtain rfl : j = l7.length := by omega
          clear hlt hj HGL HP
          go_wp2
          go_loopw [13, 78] (fun _ i wr => ∃ j : Nat, j ≤ l10.length ∧ i = .int .i64 j ∧ ∃ m, wr = W9.drewN m) (fun _ i _ => l10.length - (intOf i).toNat)
          case atStart => exact ⟨0, Nat.zero_le _, rfl, _, rfl⟩
          case round => as_aux_lemma =>
            obtain ⟨j, hj, rfl, m, rfl⟩ := hrel
            by_cases hlt : j < l10.length
            · have h97 : l7.length + j < l9.length := by simp at d1; omega
              obtain ⟨b10, o10, rfl, e10⟩ := HA.out.at hlt
              obtain ⟨b9, o9, rfl, e9⟩ := HWH.out.at h97
              rw [HGR.out j] at e9
              generalize l10.getD j 0 = x at e10 e9
              go_wp2
              go_quiet (fail)
              go_wp2
              go_roundw
              case rel => exact ⟨j + 1, by omega, by go_num, _, rfl⟩
              case measure => simp [intOf]; omega
            · obtain rfl : j = l10.length := by omega
              clear hlt hj HGR HA
              have d2 : decide (l9.length < l11.length) = false := by simp; omega
              go_wp2
              go_loopw [14, 101] (fun _ i wr => ∃ j : Nat, j ≤ l11.length ∧ i = .int .i64 j ∧ ∃ m, wr = W9.drewN m) (fun _ i _ => l11.length - (intOf i).toNat)
              case atStart => exact ⟨0, Nat.zero_le _, rfl, _, rfl⟩
              case round => as_aux_lemma =>
                obtain ⟨j, hj, rfl, m, rfl⟩ := hrel
                by_cases hlt : j < l11.length
                · have h97 : j < l9.length := by omega
                  obtain ⟨b11, o11, rfl, e11⟩ := HH.out.at hlt
                  obtain ⟨b9, o9, rfl, e9⟩ := HWH.out.at h97
                  rw [HGH.out j hlt] at e11
                  generalize l9.getD j 0 = x at e11 e9
                  go_wp2
                  go_quiet (fail)
                  go_wp2
                  go_roundw
                  case rel => exact ⟨j + 1, by omega, by go_num, _, rfl⟩
                  case measure => simp [intOf]; omega
                · obtain rfl : j = l11.length := by omega
                  clear hlt hj HGH HH HWH
                  have HLT : Hid (∀ j, leastTo zs j ≤ j * 10923) := leastTo_le HOK.out
                  go_wp2
                  go_loopw [15, 16, 119] (fun s _ i wr => ∃ j : Nat, j ≤ zs.length ∧ i = .int .i64 j ∧ s = .int .i64 ((20 * zs.length + leastTo zs j : Nat) : Int) ∧ ∃ m, wr = W9.drewN m) (fun _ _ i _ => zs.length - (intOf i).toNat)
                  case atStart => exact ⟨0, Nat.zero_le _, rfl, by simp [leastTo], _, rfl⟩
                  case round => as_aux_lemma =>
                    obtain ⟨j, hj, rfl, rfl, m, rfl⟩ := hrel
                    have hj1 := HLT.out j
                    by_cases hlt : j < zs.length
                    · obtain ⟨b, off, z, hzj, rfl, hrg, hze⟩ : ∃ b off z, zs[j]? = some z ∧ ao = some ⟨b, off, none⟩ ∧ W9.rangeAt b (off + j * 24) z.cells ∧ ZAt W9 (In w) z := by
                        obtain ⟨ao', cap', h1, h2⟩ := HZ.out.kept (Below.sameOf HBL.out (fun _ h => h))
                        obtain rfl : ao = ao' := by injection h1
                        rcases h2 with h2 | ⟨_, b, off, h4, _, h5⟩
                        · omega
                        · obtain ⟨z, p1, p2, p3⟩ := h5.out j hlt
                          exact ⟨b, off, z, p1, h4, p2, p3⟩
                      obtain ⟨sa, sc, hvs, -⟩ := hze.seats.before
                      have e22 := hrg 22 _ rfl
                      rw [hvs] at e22
                      have hst2 := leastTo_step hzj
                      have hsl := (HOK.out z (List.mem_of_getElem? hzj)).state.seats.many
                      generalize hnl : (z.d.seats.getD []).length = nl at e22 hst2 hsl
                      have HST2 := hd hst2
                      clear hrg hze hvs hst2 hnl
                      go_wp2
                      go_roundw
                      case rel => exact ⟨j + 1, by omega, by go_num, by rw [HST2.out]; congr 1; omega, _, rfl⟩
                      case measure => simp [intOf]; omega
                    · obtain rfl : j = zs.length := by omega
                      clear hlt hj
                      generalize hN : 20 * zs.length + leastTo zs zs.length = N at hls ⊢
                      have d3 : decide (l10.length < N) = false := by simp; omega
                      clear hN hj1
                      go_wp2
                      go_loopw [17, 137] (fun _ i wr => ∃ j : Nat, j ≤ zs.length ∧ i = .int .i64 j ∧ Hid (Below W9.heap.size W9 wr)) (fun _ i _ => zs.length - (intOf i).toNat)
                      case atStart => exact ⟨0, Nat.zero_le _, rfl, ⟨rfl, rfl, rfl, Nat.le_refl _, fun _ _ => rfl⟩⟩
                      case round => as_aux_lemma =>
                        obtain ⟨j, hj, rfl, HBr⟩ := hrel
                        by_cases hlt : j < zs.length
                        · have HWr := hd (HBL.out.trans (HBr.out.mono HBL.out.size))
                          obtain ⟨b, off, z, hzj, rfl, HRG, HZE⟩ : ∃ b off z, zs[j]? = some z ∧ ao = some ⟨b, off, none⟩ ∧ Hid (b < w.heap.size ∧ W9.rangeAt b (off + j * 24) z.cells) ∧ Hid (ZAt W9 (In w) z) := by
                            obtain ⟨ao', cap', h1, h2⟩ := HZ.out.kept (Below.sameOf HBL.out (fun _ h => h))
                            obtain rfl : ao = ao' := by injection h1
                            rcases h2 with h2 | ⟨_, b, off, h4, h6, h5⟩
                            · omega
                            · obtain ⟨z, p1, p2, p3⟩ := h5.out j hlt
                              exact ⟨b, off, z, p1, h4, ⟨h6, p2⟩, p3⟩
                          obtain ⟨b8, o8, g, rfl, HG, HBZ⟩ : ∃ b8 o8 g, a8 = some ⟨b8, o8, none⟩ ∧ Hid (b8 < W9.heap.size ∧ W9.cell? ⟨b8, o8 + j, none⟩ = some (.pointer (some ⟨g, 0, none⟩))) ∧ Hid (BuiltZ W9 (In W9) g z) := by
                            obtain ⟨ao', cap', h1, h2⟩ := HBU.out
                            obtain rfl : a8 = ao' := by injection h1
                            rcases h2 with h2 | ⟨_, b, off, h4, h6, h5⟩
                            · omega
                            · obtain ⟨z', g, p1, p2, p3⟩ := h5.out j hlt
                              obtain rfl := Option.some.inj (hzj.symm.trans p1)
                              exact ⟨b, off, g, h4, ⟨h6, p2⟩, p3⟩
                          have HS0 : Hid (Below W9.heap.size W9 wr.drew) := HBr.out.drew
                          have HMT := hd (stateMatches g z (In W9) (In w) wr.drew (fun i hi => Nat.lt_of_lt_of_le hi HS0.out.size) (fun i hi => Nat.lt_of_lt_of_le hi (Nat.le_trans HBL.out.size HS0.out.size)) (HBZ.out.kept (Below.sameOf HS0.out (fun _ h => h))) (HZE.out.kept (Below.sameOf HS0.out (fun i hi => Nat.lt_of_lt_of_le hi HBL.out.size))) (HOK.out z (List.mem_of_getElem? hzj)))
                          have HRS : Hid (∀ w', Below W9.heap.size W9 w' → w'.rangeAt b (off + j * 24) z.cells) := fun w' hb' => range_below hb' (Nat.lt_of_lt_of_le HRG.out.1 HBL.out.size) HRG.out.2
                          have HGS : Hid (∀ w', Below W9.heap.size W9 w' → w'.cell? ⟨b8, o8 + j, none⟩ = some (.pointer (some ⟨g, 0, none⟩))) := fun w' hb' => (hb'.cell (p := ⟨b8, o8 + j, none⟩) HG.out.1).trans HG.out.2
                          have HLEN : Hid ((Try.prog.info? 50).map (·.size) = some z.cells.length) := Try.size50
                          generalize hcl : z.cells = cl at HRS HMT HLEN
                          clear hcl HRG HZE HG HBZ hzj hls hst d1 hw9 d2 d3 hhd hn hc hzl hkz s1 HZ HBU HOK HSO HB hk0 hk1
                          go_wp2_with fail
                          refine wp_region_Z (fun w' => Below W9.heap.size W9 w') 9 (by kernel_rfl) ?_
                          show wpZ _ _ _ _ _ 10 (Array.replicate 10 false) _ _
                          refine wpZ_take (i := 0) (v := .slice (some ⟨b8, o8, none⟩) zs.length c8) [8, 3, 2] rfl (by kernel_rfl) (by kernel_rfl) (by kernel_rfl) (by kernel_rfl) (fun _ _ _ h => h) (.inl ⟨rfl, fun w' hS => ?_⟩) HS0.out ?_
                          · go_simp
                          try simp only [Act.put, List.getElem_toArray, List.getElem_cons_succ, List.getElem_cons_zero, List.setIfInBounds_toArray, List.set_cons_zero, List.set_cons_succ]
                          refine wpZ_take (i := 1) (v := .int .i64 j) [8, 3, 2] rfl (by kernel_rfl) (by kernel_rfl) (by kernel_rfl) (by kernel_rfl) (fun _ _ _ h => h) (.inl ⟨rfl, fun w' hS => ?_⟩) HS0.out ?_
                          · go_simp
                          try simp only [Act.put, List.getElem_toArray, List.getElem_cons_succ, List.getElem_cons_zero, List.setIfInBounds_toArray, List.set_cons_zero, List.set_cons_succ]
                          refine wpZ_take (i := 2) (v := .pointer (some ⟨b8, o8 + j, none⟩)) [8, 3] rfl (by kernel_rfl) (by kernel_rfl) (by kernel_rfl) (by kernel_rfl) (fun _ _ _ h => h) (.inl ⟨rfl, fun w' hS => ?_⟩) HS0.out ?_
                          · go_simp
                          try simp only [Act.put, List.getElem_toArray, List.getElem_cons_succ, List.getElem_cons_zero, List.setIfInBounds_toArray, List.set_cons_zero, List.set_cons_succ]
                          refine wpZ_take (i := 3) (v := .pointer (some ⟨g, 0, none⟩)) [8] rfl (by kernel_rfl) (by kernel_rfl) (by kernel_rfl) (by kernel_rfl) (fun _ _ _ h => h) (.inl ⟨rfl, fun w' hS => ?_⟩) HS0.out ?_
                          · have kk := HGS.out _ hS
                            go_simp
                          try simp only [Act.put, List.getElem_toArray, List.getElem_cons_succ, List.getElem_cons_zero, List.setIfInBounds_toArray, List.set_cons_zero, List.set_cons_succ]
                          refine wpZ_take (i := 4) (v := .slice (some ⟨b, off, none⟩) zs.length cap) [8, 7, 6] rfl (by kernel_rfl) (by kernel_rfl) (by kernel_rfl) (by kernel_rfl) (fun _ _ _ h => h) (.inl ⟨rfl, fun w' hS => ?_⟩) HS0.out ?_
                          · go_simp
                          try simp only [Act.put, List.getElem_toArray, List.getElem_cons_succ, List.getElem_cons_zero, List.setIfInBounds_toArray, List.set_cons_zero, List.set_cons_succ]
                          refine wpZ_take (i := 5) (v := .int .i64 j) [8, 7, 6] rfl (by kernel_rfl) (by kernel_rfl) (by kernel_rfl) (by kernel_rfl) (fun _ _ _ h => h) (.inl ⟨rfl, fun w' hS => ?_⟩) HS0.out ?_
                          · go_simp
                          try simp only [Act.put, List.getElem_toArray, List.getElem_cons_succ, List.getElem_cons_zero, List.setIfInBounds_toArray, List.set_cons_zero, List.set_cons_succ]
                          refine wpZ_take (i := 6) (v := .pointer (some ⟨b, off + j * 24, none⟩)) [8, 7] rfl (by kernel_rfl) (by kernel_rfl) (by kernel_rfl) (by kernel_rfl) (fun _ _ _ h => h) (.inl ⟨rfl, fun w' hS => ?_⟩) HS0.out ?_
                          · go_simp
                          try simp only [Act.put, List.getElem_toArray, List.getElem_cons_succ, List.getElem_cons_zero, List.setIfInBounds_toArray, List.set_cons_zero, List.set_cons_succ]
                          refine wpZ_take (i := 7) (v := .agg cl.toArray) [8] rfl (by kernel_rfl) (by kernel_rfl) (by kernel_rfl) (by kernel_rfl) (fun _ _ _ h => h) (yieldsIf_load_mid rfl 50 _ rfl b (off + j * 24) rfl cl _ (fun w' hS => HRS.out w' hS) Try.underlying50 rfl HLEN.out) HS0.out ?_
                          try simp only [Act.put, List.getElem_toArray, List.getElem_cons_succ, List.getElem_cons_zero, List.setIfInBounds_toArray, List.set_cons_zero, List.set_cons_succ]
                          refine wpZ_one (i := 8) (by kernel_rfl) (wpOp_want rfl rfl ?_)
                          go_simp
                          go_at_call 21
                          refine HMT.out.mono ?_
                          rintro e w2 ⟨rfl, b2⟩
                          have HS1 : Hid (Below W9.heap.size W9 w2) := HS0.out.trans (b2.mono HS0.out.size)
                          clear b2
                          refine ⟨HS1.out, ?_⟩
                          try simp only [Act.put, List.getElem_toArray, List.getElem_cons_succ, List.getElem_cons_zero, List.setIfInBounds_toArray, List.set_cons_zero, List.set_cons_succ]
                          refine wpZ_one (i := 9) (by kernel_rfl) (wpOp_want rfl rfl ?_)
                          go_simp
                          refine wpZ_done (by kernel_rfl) ?_
                          try simp only [Act.put, List.getElem_toArray, List.getElem_cons_succ, List.getElem_cons_zero, List.setIfInBounds_toArray, List.set_cons_zero, List.set_cons_succ]
                          clear HMT HRS HGS
                          go_wp2
                          go_roundw
                          case rel => exact ⟨j + 1, by omega, by go_num, HS1⟩
                          case measure => simp [intOf]; omega
                        · obtain rfl : j = zs.length := by omega
                          go_wp2
                          go_ret
                          exact ⟨rfl, HBL.out.trans (HBr.out.mono HBL.out.size)⟩
end Go.Proofs.Qxb6618929a
