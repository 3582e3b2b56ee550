/-
  zzDecCards.
-/
import Derived.Test.Qxb6618929aDec4
import Derived.Test.Qxb6618929aHold
namespace Go.Proofs.Qxb6618929a
open Go Go.RowKit

section
variable {w w' : World} {s : Nat} {R : Nat → Prop} {out : List UInt8} {p : Nat} {ts : List (List UInt8)} {bv sv : Value}

/-- A new block, or one that none of hers is, was written. -/
theorem Dec.other (h : Dec w s R out p ts bv sv) (hb : ∀ k, (R k ∨ k = s ∨ sv.ownBlock = some k) → w'.heap[k]? = w.heap[k]?) (hz : w.heap.size ≤ w'.heap.size) : Dec w' s R out p ts bv sv :=
  ⟨(hb s (.inr (.inl rfl))).trans h.box, h.bytes.kept (fun k hk => hb k (.inl hk)), own_kept h.strs (fun k hk => hb k (.inr (.inr hk))), h.sat, h.here, fun k hk => Nat.lt_of_lt_of_le (h.base k hk) hz⟩
theorem Dec.below (h : Dec w s R out p ts bv sv) (hb : Below w.heap.size w w') : Dec w' s R out p ts bv sv :=
  h.other (fun k hk => hb.block k (by rcases hk with hk | rfl | hk; exact h.base k hk; exact h.lt; exact own_lt h.strs k hk)) hb.size
theorem Fr.belowAll (hF : Fr R w w') {w2 : World} (hR : ∀ k, R k → k < w'.heap.size) (hb : Below w'.heap.size w' w2) : Fr R w w2 :=
  ⟨hb.os.trans hF.os, hb.tape.trans hF.tape, hb.output.trans hF.output, Nat.le_trans hF.size hb.size, fun k hk => (hb.block k (hR k hk)).trans (hF.block k hk)⟩
theorem Dec.more (h : Dec w s R out p ts bv sv) {R' : Nat → Prop} (hr : ∀ k, R k → R' k) (hs : ∀ k, R' k → k < w.heap.size ∧ k ≠ s ∧ sv.ownBlock ≠ some k) : Dec w s R' out p ts bv sv :=
  ⟨h.box, h.bytes.more hr, h.strs, fun k hk hn => (hs k hn).2.2 hk, fun hn => (hs s hn).2.1 rfl, fun k hk => (hs k hk).1⟩
end

/-- The new row behind k rounds. -/
def CardsInv (W1 wr : World) (cs : List UInt8) (k : Nat) : Prop :=
  wr.ownsRow W1.heap.size 5 1 (.slice (some ⟨W1.heap.size, 0, none⟩) cs.length cs.length) cs.length (part (Lib.byteCells cs) (.int .u8 0) cs.length k) ∧ Below W1.heap.size W1 wr
theorem CardsInv.step {W1 wr : World} {cs : List UInt8} {k : Nat} (h : CardsInv W1 wr cs k) (hk : k < cs.length) :
    (∃ u, wr.cell? ⟨W1.heap.size, k, none⟩ = some u) ∧ wr.frozen? ⟨W1.heap.size, k, none⟩ = false ∧ CardsInv W1 (wr.setCell ⟨W1.heap.size, k, none⟩ (.int .u8 (cs.getD k 0).toNat)) cs (k + 1) := by
  obtain ⟨ho, hb⟩ := h
  have hxl : (Lib.byteCells cs).length = cs.length := by simp [Lib.byteCells]
  have hpl := part_len (Lib.byteCells cs) (.int .u8 0) cs.length k hxl (Nat.le_of_lt hk)
  have hst := ho.stored k (.int .u8 (cs.getD k 0).toNat)
  rw [part_step (Lib.byteCells cs) (.int .u8 0) _ cs.length k hxl hk (byteCells_get cs k hk)] at hst
  exact ⟨⟨(part (Lib.byteCells cs) (.int .u8 0) cs.length k)[k]'(by omega), by rw [ho.cellAt k (by omega)]; exact List.getElem?_eq_getElem _⟩, ho.frozenAt k, hst.1, hb.setCell (Nat.le_refl _) _⟩

theorem CardsInv.drewIn {W1 wr : World} {cs : List UInt8} {k j : Nat} {v : Value} (h : CardsInv W1 (wr.setCell ⟨W1.heap.size, j, none⟩ v) cs k) : CardsInv W1 (wr.drew.setCell ⟨W1.heap.size, j, none⟩ v) cs k :=
  ⟨h.1, ⟨h.2.os, h.2.tape, h.2.output, h.2.size, h.2.block⟩⟩

theorem d_cards_none (s : Nat) (R : Nat → Prop) (out : List UInt8) (p : Nat) (ts : List (List UInt8)) (bv sv : Value) (rest : List UInt8) (w : World) (h : Dec w s R out p ts bv sv) (hout : out.length ≤ 140737489403904) (hc : out.drop p = 0 :: rest) :
    Calls Try.prog 32 #[.pointer (some ⟨s, 0, none⟩)] w fun e w' => e = .returned (.slice none 0 0) ∧ DecTo s R w out (p + 1) ts bv w' := by
  have hc' : out.drop p = Lib.uvarint 0 ++ rest := by rw [Lib.uvarint_small (by omega)]; exact hc
  have C := hd (d_uvarint s R out p ts bv sv 0 rest w h hout (by omega) hc')
  rw [Lib.uvarint_small (by omega)] at C
  clear h hc hc'
  go_enter Try.func32, Try.ntmps32
  go_wp2_with (go_at_call 41; refine C.out.mono ?_; rintro e w' ⟨rfl, ⟨sv', g1⟩, g2⟩; have b3 := g1.cells.2.2.2.1; have HG := hd (And.intro g1 g2); clear g1 g2)
  go_ret
  exact ⟨rfl, ⟨_, HG.out.1⟩, HG.out.2⟩

set_option linter.unusedSimpArgs false in
set_option maxRecDepth 100000 in
set_option maxHeartbeats 40000000 in
theorem d_cards_some (s : Nat) (R : Nat → Prop) (out : List UInt8) (p : Nat) (ts : List (List UInt8)) (bv sv : Value) (cs rest : List UInt8) (w : World) (h : Dec w s R out p ts bv sv) (hout : out.length ≤ 140737489403904) (hl : cs.length ≤ 1048577)
    (hc : out.drop p = Lib.uvarint (cs.length + 1) ++ (cs ++ rest)) :
    Calls Try.prog 32 #[.pointer (some ⟨s, 0, none⟩)] w fun e w' => ∃ v, e = .returned v ∧ DecNew s R w out (p + (Lib.uvarint (cs.length + 1)).length + cs.length) ts bv (fun R' w' => CardsAt w' R' v (some cs)) w' := by
  obtain ⟨i0, hi, hz0, hz1, hz2⟩ := info_parts Try.info5
  have hc1 : out.drop (p + (Lib.uvarint (cs.length + 1)).length) = cs ++ rest := by rw [← List.drop_drop, hc, List.drop_left]
  have hlt : p + (Lib.uvarint (cs.length + 1)).length + cs.length ≤ out.length := by
    have h1 := congrArg List.length hc1
    have h3 := congrArg List.length hc
    have := uvarint_pos (cs.length + 1)
    simp only [List.length_drop, List.length_append] at h1 h3
    omega
  have hl1 := uvarint_pos (cs.length + 1)
  have C := hd (d_uvarint s R out p ts bv sv (cs.length + 1) _ w h hout (by omega) hc)
  obtain ⟨ao, cap, hbv, h2⟩ := h.bytes
  rcases h2 with h2 | ⟨_, b, off, rfl, hRb, _⟩
  · omega
  subst hbv
  have HC1 := hd hc1
  clear h hc hc1
  generalize hp1 : p + (Lib.uvarint (cs.length + 1)).length = p1 at *
  clear hp1 hl1
  have hcast : ((cs.length + 1 : Nat) : Int) = (cs.length : Int) + 1 := by omega
  rw [hcast] at C
  clear hcast
  go_enter Try.func32, Try.ntmps32
  go_wp2_with (go_at_call 41; refine C.out.mono ?_; rintro e w1 ⟨rfl, ⟨sv1, g1⟩, g2⟩; obtain ⟨b0, b1, b2, b3, f1, f2⟩ := g1.cells; have HG := hd (And.intro g1 g2); clear g1 g2 b2 f2)
  have d1 : decide ((out.length : Int) - (p1 : Int) < (cs.length : Int)) = false := by simp; omega
  go_quiet (fail)
  generalize hW1 : w1.drewN nq = W1
  have HG1 : Hid (Dec W1 s R out p1 ts (.slice (some ⟨b, off, none⟩) out.length cap) sv1 ∧ Fr R w W1) := by
    rw [← hW1]
    exact ⟨HG.out.1.drewN _, HG.out.2.drewN _⟩
  clear hW1 HG b0 b1 b3 f1 C
  go_wp2_with (at_make; refine wpList_make_full _ rfl _ _ 36 rfl W1.heap.size 5 i0 (.int .u8 0) 1 Try.underlying36 hi hz0 hz1 _ _ _ _ cs.length rfl rfl rfl rfl (by rw [hz2]; omega) (by unfold maxLen; omega) (Nat.le_refl _) ?_; intro w2 hown hgrow; have HI0 : Hid (CardsInv W1 w2 cs 0) := (by refine ⟨?_, (Below.refl _ _).grown hgrow (Nat.le_refl _) (fun k h => by cases h)⟩; have e : (madeCells (Value.int .u8 0).cells (cs.length * 1)).toList = part (Lib.byteCells cs) (.int .u8 0) cs.length 0 := (by rw [show (Value.int .u8 0).cells = #[Value.int .u8 0] from rfl, toList_madeCells_one]; simp [part]); rw [← e]; exact hown); clear hown hgrow)
  go_loopw [5, 40] (fun _ i wr => ∃ k : Nat, k ≤ cs.length ∧ i = .int .i64 k ∧ Hid (CardsInv W1 wr cs k)) (fun _ i _ => cs.length - (intOf i).toNat)
  case atStart => exact ⟨0, Nat.zero_le _, rfl, HI0⟩
  case round =>
    obtain ⟨k, hk, rfl, HI⟩ := hrel
    have HD := hd (HG1.out.1.below HI.out.2)
    by_cases hkl : k < cs.length
    · obtain ⟨⟨u, hu⟩, hf, HI2⟩ := HI.out.step hkl
      have HI2 := hd HI2
      have hbyte : wr.cell? ⟨b, off + (p1 + k), none⟩ = some (.int .u8 (cs.getD k 0).toNat) := by
        obtain ⟨ao', cap', q1, q2⟩ := HD.out.bytes
        obtain rfl : some ⟨b, off, none⟩ = ao' := by injection q1
        rcases q2 with q2 | ⟨_, b', off', q3, _, q4⟩
        · omega
        injection q3 with q3
        injection q3 with q3 q5
        subst q3 q5
        rw [q4.out (p1 + k) (by omega)]
        have e : out.getD (p1 + k) 0 = cs.getD k 0 := by
          have h3 : (out.drop p1).getD k 0 = cs.getD k 0 := by rw [HC1.out]; simp [List.getD, List.getElem?_append_left hkl]
          rw [← h3]
          simp [List.getD]
        rw [e]
      obtain ⟨b0, b1, b2, b3, f1, f2⟩ := HD.out.cells
      clear b2 b3 f1 f2
      generalize cs.getD k 0 = x at hbyte HI2
      have hwr : IntKind.i64.wrap ((p1 : Int) + (k : Int)) = (p1 : Int) + (k : Int) := by rw [IntKind.wrap_i64]; omega
      have hrng : 0 ≤ (p1 : Int) + (k : Int) ∧ (p1 : Int) + (k : Int) < (out.length : Int) := by omega
      have htn : ((p1 : Int) + (k : Int)).toNat = p1 + k := by omega
      go_wp2
      refine wp_region_Z (fun w' => w' = wr.drew) 15 (by kernel_rfl) ?_
      show wpZ _ _ _ _ _ 16 (Array.replicate 16 false) _ _
      refine wpZ_take (i := 0) (v := .slice (some ⟨W1.heap.size, 0, none⟩) cs.length cs.length) [] rfl (by kernel_rfl) (by kernel_rfl) (by kernel_rfl) (by kernel_rfl) (fun _ _ _ h => h) (.inl ⟨rfl, fun w' hS => ?_⟩) rfl ?_
      · subst hS
        go_simp
      try simp only [Act.put, List.getElem_toArray, List.getElem_cons_succ, List.getElem_cons_zero, List.setIfInBounds_toArray, List.set_cons_zero, List.set_cons_succ]
      refine wpZ_take (i := 1) (v := .int .i64 k) [] rfl (by kernel_rfl) (by kernel_rfl) (by kernel_rfl) (by kernel_rfl) (fun _ _ _ h => h) (.inl ⟨rfl, fun w' hS => ?_⟩) rfl ?_
      · subst hS
        go_simp
      try simp only [Act.put, List.getElem_toArray, List.getElem_cons_succ, List.getElem_cons_zero, List.setIfInBounds_toArray, List.set_cons_zero, List.set_cons_succ]
      refine wpZ_take (i := 2) (v := .pointer (some ⟨s, 0, none⟩)) [] rfl (by kernel_rfl) (by kernel_rfl) (by kernel_rfl) (by kernel_rfl) (fun _ _ _ h => h) (.inl ⟨rfl, fun w' hS => ?_⟩) rfl ?_
      · subst hS
        go_simp
      try simp only [Act.put, List.getElem_toArray, List.getElem_cons_succ, List.getElem_cons_zero, List.setIfInBounds_toArray, List.set_cons_zero, List.set_cons_succ]
      refine wpZ_take (i := 3) (v := .pointer (some ⟨s, 0, none⟩)) [] rfl (by kernel_rfl) (by kernel_rfl) (by kernel_rfl) (by kernel_rfl) (fun _ _ _ h => h) (.inl ⟨rfl, fun w' hS => ?_⟩) rfl ?_
      · subst hS
        go_simp
      try simp only [Act.put, List.getElem_toArray, List.getElem_cons_succ, List.getElem_cons_zero, List.setIfInBounds_toArray, List.set_cons_zero, List.set_cons_succ]
      refine wpZ_take (i := 4) (v := .pointer (some ⟨s, 0, none⟩)) [] rfl (by kernel_rfl) (by kernel_rfl) (by kernel_rfl) (by kernel_rfl) (fun _ _ _ h => h) (.inl ⟨rfl, fun w' hS => ?_⟩) rfl ?_
      · subst hS
        go_simp
      try simp only [Act.put, List.getElem_toArray, List.getElem_cons_succ, List.getElem_cons_zero, List.setIfInBounds_toArray, List.set_cons_zero, List.set_cons_succ]
      refine wpZ_take (i := 5) (v := .slice (some ⟨b, off, none⟩) out.length cap) [] rfl (by kernel_rfl) (by kernel_rfl) (by kernel_rfl) (by kernel_rfl) (fun _ _ _ h => h) (.inl ⟨rfl, fun w' hS => ?_⟩) rfl ?_
      · subst hS
        go_simp
      try simp only [Act.put, List.getElem_toArray, List.getElem_cons_succ, List.getElem_cons_zero, List.setIfInBounds_toArray, List.set_cons_zero, List.set_cons_succ]
      refine wpZ_take (i := 6) (v := .pointer (some ⟨s, 0, none⟩)) [] rfl (by kernel_rfl) (by kernel_rfl) (by kernel_rfl) (by kernel_rfl) (fun _ _ _ h => h) (.inl ⟨rfl, fun w' hS => ?_⟩) rfl ?_
      · subst hS
        go_simp
      try simp only [Act.put, List.getElem_toArray, List.getElem_cons_succ, List.getElem_cons_zero, List.setIfInBounds_toArray, List.set_cons_zero, List.set_cons_succ]
      refine wpZ_take (i := 7) (v := .pointer (some ⟨s, 0, none⟩)) [] rfl (by kernel_rfl) (by kernel_rfl) (by kernel_rfl) (by kernel_rfl) (fun _ _ _ h => h) (.inl ⟨rfl, fun w' hS => ?_⟩) rfl ?_
      · subst hS
        go_simp
      try simp only [Act.put, List.getElem_toArray, List.getElem_cons_succ, List.getElem_cons_zero, List.setIfInBounds_toArray, List.set_cons_zero, List.set_cons_succ]
      refine wpZ_take (i := 8) (v := .pointer (some ⟨s, 1, none⟩)) [] rfl (by kernel_rfl) (by kernel_rfl) (by kernel_rfl) (by kernel_rfl) (fun _ _ _ h => h) (.inl ⟨rfl, fun w' hS => ?_⟩) rfl ?_
      · subst hS
        go_simp
      try simp only [Act.put, List.getElem_toArray, List.getElem_cons_succ, List.getElem_cons_zero, List.setIfInBounds_toArray, List.set_cons_zero, List.set_cons_succ]
      refine wpZ_take (i := 9) (v := .int .i64 p1) [] rfl (by kernel_rfl) (by kernel_rfl) (by kernel_rfl) (by kernel_rfl) (fun _ _ _ h => h) (.inl ⟨rfl, fun w' hS => ?_⟩) rfl ?_
      · subst hS
        go_simp
      try simp only [Act.put, List.getElem_toArray, List.getElem_cons_succ, List.getElem_cons_zero, List.setIfInBounds_toArray, List.set_cons_zero, List.set_cons_succ]
      refine wpZ_take (i := 10) (v := .int .i64 k) [] rfl (by kernel_rfl) (by kernel_rfl) (by kernel_rfl) (by kernel_rfl) (fun _ _ _ h => h) (.inl ⟨rfl, fun w' hS => ?_⟩) rfl ?_
      · subst hS
        go_simp
      try simp only [Act.put, List.getElem_toArray, List.getElem_cons_succ, List.getElem_cons_zero, List.setIfInBounds_toArray, List.set_cons_zero, List.set_cons_succ]
      refine wpZ_take (i := 11) (v := .int .i64 ((p1 : Int) + k)) [] rfl (by kernel_rfl) (by kernel_rfl) (by kernel_rfl) (by kernel_rfl) (fun _ _ _ h => h) (.inl ⟨rfl, fun w' hS => ?_⟩) rfl ?_
      · subst hS
        go_simp
      try simp only [Act.put, List.getElem_toArray, List.getElem_cons_succ, List.getElem_cons_zero, List.setIfInBounds_toArray, List.set_cons_zero, List.set_cons_succ]
      refine wpZ_take (i := 12) (v := .pointer (some ⟨b, off + (p1 + k), none⟩)) [] rfl (by kernel_rfl) (by kernel_rfl) (by kernel_rfl) (by kernel_rfl) (fun _ _ _ h => h) (.inl ⟨rfl, fun w' hS => ?_⟩) rfl ?_
      · subst hS
        go_simp
      try simp only [Act.put, List.getElem_toArray, List.getElem_cons_succ, List.getElem_cons_zero, List.setIfInBounds_toArray, List.set_cons_zero, List.set_cons_succ]
      refine wpZ_take (i := 13) (v := .int .u8 x.toNat) [] rfl (by kernel_rfl) (by kernel_rfl) (by kernel_rfl) (by kernel_rfl) (fun _ _ _ h => h) (.inl ⟨rfl, fun w' hS => ?_⟩) rfl ?_
      · subst hS
        go_simp
      try simp only [Act.put, List.getElem_toArray, List.getElem_cons_succ, List.getElem_cons_zero, List.setIfInBounds_toArray, List.set_cons_zero, List.set_cons_succ]
      refine wpZ_take (i := 14) (v := .pointer (some ⟨W1.heap.size, k, none⟩)) [] rfl (by kernel_rfl) (by kernel_rfl) (by kernel_rfl) (by kernel_rfl) (fun _ _ _ h => h) (.inl ⟨rfl, fun w' hS => ?_⟩) rfl ?_
      · subst hS
        go_simp
      try simp only [Act.put, List.getElem_toArray, List.getElem_cons_succ, List.getElem_cons_zero, List.setIfInBounds_toArray, List.set_cons_zero, List.set_cons_succ]
      refine wpZ_one (i := 15) (by kernel_rfl) (wpOp_want rfl rfl ?_)
      go_simp
      refine wpZ_done (by kernel_rfl) ?_
      try simp only [Act.put, List.getElem_toArray, List.getElem_cons_succ, List.getElem_cons_zero, List.setIfInBounds_toArray, List.set_cons_zero, List.set_cons_succ]
      go_wp2
      go_roundw
      case rel => exact ⟨k + 1, by omega, by go_num, HI2.out.drewIn⟩
      case measure => simp [intOf]; omega
    · obtain rfl : k = cs.length := by omega
      obtain ⟨b0, b1, b2, b3, f1, f2⟩ := HD.out.cells
      clear b0 b2 b3 f2
      go_wp2
      go_ret
      obtain ⟨q1, q2⟩ := HD.out.move (p1 + cs.length)
      have hown := HI.out.1
      rw [part_end _ _ _ (by simp [Lib.byteCells])] at hown
      have hW : W1.heap.size < wr.heap.size := own_some_lt hown
      have hns : W1.heap.size ≠ s := fun e => by have := HG1.out.1.lt; omega
      have hsz : (wr.setCell ⟨s, 1, none⟩ (.int .i64 ((p1 + cs.length : Nat) : Int))).heap.size = wr.heap.size := by simp [World.setCell]
      refine ⟨_, rfl, fun i => i = W1.heap.size, fun i hi => ⟨by rw [hi]; exact HG1.out.2.size, by rw [hi]; exact Nat.lt_of_lt_of_le hW (Nat.le_of_eq hsz.symm)⟩, ⟨_, q1.more (fun _ h => .inl h) (fun i hi => ?_)⟩, (HG1.out.2.belowAll HG1.out.1.base HI.out.2).trans q2, ?_⟩
      · rw [hsz]
        rcases hi with hi | rfl
        · exact ⟨HD.out.base i hi, fun e => HD.out.here (e ▸ hi), fun e => HD.out.sat i e hi⟩
        · exact ⟨hW, hns, fun e => by have := own_lt HG1.out.1.strs _ e; omega⟩
      · refine (cards_of_own (R := fun i => i = W1.heap.size) hown rfl rfl).kept (fun i hi => Below.heap_setCell _ _ _ _ ?_)
        show i ≠ s
        rw [hi]
        exact hns

theorem d_cards (s : Nat) (R : Nat → Prop) (out : List UInt8) (p : Nat) (ts : List (List UInt8)) (bv sv : Value) (o : Option (List UInt8)) (rest : List UInt8) (w : World) (h : Dec w s R out p ts bv sv) (hout : out.length ≤ 140737489403904) (hl : CardsOk o)
    (hc : out.drop p = (putCards o ([], [])).1 ++ rest) :
    Calls Try.prog 32 #[.pointer (some ⟨s, 0, none⟩)] w fun e w' => ∃ v, e = .returned v ∧ DecNew s R w out (p + (putCards o ([], [])).1.length) ts bv (fun R' w' => CardsAt w' R' v o) w' := by
  cases o with
  | none =>
    refine (d_cards_none s R out p ts bv sv rest w h hout hc).mono ?_
    rintro e w' ⟨rfl, ⟨sv', h1⟩, h2⟩
    exact ⟨_, rfl, fun _ => False, fun _ h => h.elim, ⟨sv', h1.same (fun k => ⟨.inl, fun h => h.elim id False.elim⟩)⟩, h2, rfl⟩
  | some cs =>
    have hc' : out.drop p = Lib.uvarint (cs.length + 1) ++ (cs ++ rest) := by simpa [putCards, putLen, putU] using hc
    refine (d_cards_some s R out p ts bv sv cs rest w h hout hl hc').mono ?_
    rintro e w' ⟨v, rfl, h1⟩
    refine ⟨v, rfl, ?_⟩
    simpa only [putCards, putLen, putU, List.nil_append, List.length_append, Nat.add_assoc] using h1
end Go.Proofs.Qxb6618929a
