/-
  slices.Equal over cards; sameSeat.
-/
import Derived.Test.Qxb6618929aMem
import Derived.Deep.QuietTactic
import Derived.BigQuiet
import Derived.Test.Qxb6618929aLex
namespace Go.Proofs.Qxb6618929a
open Go Go.RowKit

attribute [local go_sem] qz77 qs77

/-- A slice of bytes or cards: nil, or of these. -/
def RowAt (w : World) (R : Nat → Prop) (v : Value) (cs : List UInt8) : Prop :=
  ∃ (ao : Option Addr) (cap : Nat), v = .slice ao cs.length cap ∧ (cs.length ≤ 0 ∨ (0 < cs.length ∧ ∃ b off, ao = some ⟨b, off, none⟩ ∧ R b ∧ Hid (∀ j, j < cs.length → w.cell? ⟨b, off + j, none⟩ = some (.int .u8 (cs.getD j 0).toNat))))
theorem CardsAt.row {w : World} {R : Nat → Prop} {v : Value} {o : Option (List UInt8)} (h : CardsAt w R v o) : RowAt w R v (o.getD []) := by
  cases o with
  | none => exact ⟨none, 0, h, .inl (Nat.le_refl _)⟩
  | some cs =>
    obtain ⟨a, cap, h1, h2⟩ := h
    refine ⟨some a, cap, h1, ?_⟩
    rcases h2 with h2 | ⟨b, off, h3, h4, h5⟩
    · exact .inl h2
    · by_cases h0 : 0 < cs.length
      · exact .inr ⟨h0, b, off, by rw [h3], h4, h5⟩
      · exact .inl (by simpa using h0)

theorem list_ext {a b : List UInt8} (hl : a.length = b.length) (h : ∀ j, j < a.length → a.getD j 0 = b.getD j 0) : a = b := by
  apply List.ext_getElem hl
  intro j h1 h2
  have := h j h1
  simpa [List.getD, h1, h2] using this

theorem u8_ne {x y : UInt8} (h : x ≠ y) : ((x.toNat : Int) != (y.toNat : Int)) = true := bne_iff_ne.2 (fun e => h (UInt8.toNat.inj (by omega)))

set_option maxHeartbeats 1000000 in
theorem equal73 (v1 v2 : Value) (R : Nat → Prop) (a b : List UInt8) (w : World) (h1 : RowAt w R v1 a) (h2 : RowAt w R v2 b) (hla : a.length ≤ 140737488355328) :
    Calls Try.prog 73 #[v1, v2] w fun e w' => e = .returned (.bool (a == b)) ∧ ∃ m, w' = w.drewN m := by
  obtain ⟨ao1, cap1, rfl, k1⟩ := h1
  obtain ⟨ao2, cap2, rfl, k2⟩ := h2
  by_cases hl : a.length = b.length
  rotate_left
  · have HF : Hid ((a == b) = false) := beq_false_of_ne (fun e => hl (by rw [e]))
    rw [HF.out]
    clear k1 k2
    have hl2 : decide ((a.length : Int) = (b.length : Int)) = false := decide_eq_false (by omega)
    go_enter Try.func73, Try.ntmps73
    go_wp2
    all_goals
      go_ret
      exact ⟨rfl, 0, rfl⟩
  have HL := hd hl
  rw [← hl] at k2 ⊢
  clear hl
  rcases k1 with h0 | ⟨h0, b1, off1, rfl, hr1, HC1⟩
  · have HT : Hid ((a == b) = true) := by
      have e1 : a = [] := List.eq_nil_of_length_eq_zero (by omega)
      have e2 : b = [] := List.eq_nil_of_length_eq_zero (by have := HL.out; omega)
      show (a == b) = true
      rw [e1, e2]; rfl
    rw [HT.out]
    clear k2
    go_enter Try.func73, Try.ntmps73
    go_wp2
    go_loop [5, 13] (fun _ i => i = .int .i64 0) (fun _ _ => 0)
    case atStart => rfl
    case round =>
      subst hrel
      go_wp2
      go_ret
      exact ⟨rfl, 0, rfl⟩
  · rcases k2 with h0' | ⟨_, b2, off2, rfl, hr2, HC2⟩
    · omega
    go_enter Try.func73, Try.ntmps73
    go_wp2
    go_loopw [5, 13] (fun _ i wr => ∃ (k : Nat), k ≤ a.length ∧ i = .int .i64 k ∧ (∃ m, wr = w.drewN m) ∧ Hid (∀ j, j < k → a.getD j 0 = b.getD j 0)) (fun _ i _ => a.length - (intOf i).toNat)
    case atStart => exact ⟨0, Nat.zero_le _, rfl, ⟨0, rfl⟩, fun j hj => by omega⟩
    case round =>
      obtain ⟨k, hk, rfl, ⟨m, rfl⟩, HN⟩ := hrel
      by_cases hlt : k < a.length
      · have c1 : w.cell? ⟨b1, off1 + k, none⟩ = _ := HC1.out k hlt
        have c2 : w.cell? ⟨b2, off2 + k, none⟩ = _ := HC2.out k (by have := HL.out; omega)
        by_cases he : a.getD k 0 = b.getD k 0
        · have HN2 : Hid (∀ j, j < k + 1 → a.getD j 0 = b.getD j 0) := fun j hj => by
            by_cases e : j = k
            · subst e; exact he
            · exact HN.out j (by omega)
          rw [← he] at c2
          generalize a.getD k 0 = x at c1 c2
          clear he
          go_wp2
          go_quiet (fail)
          go_wp2
          go_roundw
          case rel => exact ⟨k + 1, by omega, by go_num, ⟨_, rfl⟩, HN2⟩
          case measure => simp [intOf]; omega
        · have HF : Hid ((a == b) = false) := beq_false_of_ne (fun e => he (by rw [e]))
          have hne := u8_ne he
          generalize a.getD k 0 = x at c1 hne
          generalize b.getD k 0 = y at c2 hne
          clear he
          go_wp2
          go_quiet (fail)
          go_wp2
          go_ret
          exact ⟨by rw [HF.out]; rfl, _, World.drewN_drewN _ _ _⟩
      · have HT : Hid ((a == b) = true) := by
          have := list_ext HL.out (fun j hj => HN.out j (by omega))
          show (a == b) = true
          rw [this]; simp
        go_wp2
        go_ret
        exact ⟨by rw [HT.out]; rfl, _, rfl⟩

/-- A seat at p: her eight cells. -/
structure SeatAt (w : World) (R : Nat → Prop) (b o : Nat) (d : SeatD) (cv : Value) : Prop where
  inR : R b
  c0 : w.cell? ⟨b, o, none⟩ = some (.int .i64 d.seat)
  c1 : w.cell? ⟨b, o + 1, none⟩ = some (encS d.name)
  c2 : w.cell? ⟨b, o + 2, none⟩ = some (.int .i64 d.stack)
  c3 : w.cell? ⟨b, o + 3, none⟩ = some (.int .i64 d.bet)
  c4 : w.cell? ⟨b, o + 4, none⟩ = some (.bool d.folded)
  c5 : w.cell? ⟨b, o + 5, none⟩ = some (.bool d.allIn)
  c6 : w.cell? ⟨b, o + 6, none⟩ = some cv
  c7 : w.cell? ⟨b, o + 7, none⟩ = some (.bool d.conn)
  cards : CardsAt w R cv d.cards
theorem SeatAt.kept {w w' : World} {R : Nat → Prop} {b o : Nat} {d : SeatD} {cv : Value} (h : SeatAt w R b o d cv) (hs : Same R w w') : SeatAt w' R b o d cv :=
  ⟨h.inR, (hs.cell (p := ⟨b, o, none⟩) h.inR).trans h.c0, (hs.cell (p := ⟨b, o + 1, none⟩) h.inR).trans h.c1, (hs.cell (p := ⟨b, o + 2, none⟩) h.inR).trans h.c2, (hs.cell (p := ⟨b, o + 3, none⟩) h.inR).trans h.c3, (hs.cell (p := ⟨b, o + 4, none⟩) h.inR).trans h.c4,
    (hs.cell (p := ⟨b, o + 5, none⟩) h.inR).trans h.c5, (hs.cell (p := ⟨b, o + 6, none⟩) h.inR).trans h.c6, (hs.cell (p := ⟨b, o + 7, none⟩) h.inR).trans h.c7, h.cards.kept hs⟩
theorem SeatAt.more {w : World} {R R' : Nat → Prop} {b o : Nat} {d : SeatD} {cv : Value} (h : SeatAt w R b o d cv) (hr : ∀ k, R k → R' k) : SeatAt w R' b o d cv :=
  ⟨hr _ h.inR, h.c0, h.c1, h.c2, h.c3, h.c4, h.c5, h.c6, h.c7, h.cards.more hr⟩

/-- The cards of a seat are not too many. -/
def CardsOk (o : Option (List UInt8)) : Prop := (o.getD []).length ≤ 1048577

theorem cards_beq (o o' : Option (List UInt8)) (h : o.isNone = o'.isNone) : (o == o') = ((o.getD []) == (o'.getD [])) := by
  cases o <;> cases o' <;> simp_all

theorem drewN_row {w : World} {R : Nat → Prop} {v : Value} {cs : List UInt8} (h : RowAt w R v cs) (n : Nat) : RowAt (w.drewN n) R v cs := h
theorem beq_ff {α : Type} [BEq α] [LawfulBEq α] {x y : α} (h : x ≠ y) : (x == y) = false := beq_false_of_ne h

set_option maxHeartbeats 8000000 in
set_option maxRecDepth 100000 in
theorem sameSeat72 (R : Nat → Prop) (b1 o1 b2 o2 : Nat) (d1 d2 : SeatD) (v1 v2 : Value) (w : World) (h1 : SeatAt w R b1 o1 d1 v1) (h2 : SeatAt w R b2 o2 d2 v2) (k1 : CardsOk d1.cards) :
    Calls Try.prog 72 #[.pointer (some ⟨b1, o1, none⟩), .pointer (some ⟨b2, o2, none⟩)] w fun e w' => e = .returned (.bool (sameSeatD d1 d2)) ∧ ∃ m, w' = w.drewN m := by
  unfold CardsOk at k1
  have CE : Hid (∀ n, Calls Try.prog 73 #[v1, v2] (w.drewN n) fun e w' => e = .returned (.bool ((d1.cards.getD []) == (d2.cards.getD []))) ∧ ∃ m, w' = w.drewN m) := fun n =>
    (equal73 v1 v2 R _ _ (w.drewN n) (drewN_row h1.cards.row n) (drewN_row h2.cards.row n) (by omega)).mono fun e w' ⟨p1, m, p2⟩ => ⟨p1, n + m, by rw [p2, World.drewN_drewN]⟩
  obtain ⟨f0, f1, f2, f3, f4, f5, f6, f7, fc⟩ : _ ∧ _ ∧ _ ∧ _ ∧ _ ∧ _ ∧ _ ∧ _ ∧ _ := ⟨h1.c0, h1.c1, h1.c2, h1.c3, h1.c4, h1.c5, h1.c6, h1.c7, h1.cards⟩
  obtain ⟨g0, g1, g2, g3, g4, g5, g6, g7, gc⟩ : _ ∧ _ ∧ _ ∧ _ ∧ _ ∧ _ ∧ _ ∧ _ ∧ _ := ⟨h2.c0, h2.c1, h2.c2, h2.c3, h2.c4, h2.c5, h2.c6, h2.c7, h2.cards⟩
  clear h1 h2 k1
  obtain ⟨a0, a1, a2, a3, a4, a5, a6, a7⟩ := d1
  obtain ⟨c0, c1, c2, c3, c4, c5, c6, c7⟩ := d2
  simp only [encS] at *
  go_enter Try.func72, Try.ntmps72
  go_wp2_with fail
  simp only [List.append_eq, List.cons_append, List.nil_append]
  refine wp_region_quiet_big (by kernel_rfl) (by kernel_rfl) (by kernel_rfl) ?_
  by_cases e0 : a0 = c0
  rotate_left
  · have HF : Hid (sameSeatD ⟨a0, a1, a2, a3, a4, a5, a6, a7⟩ ⟨c0, c1, c2, c3, c4, c5, c6, c7⟩ = false) := by show _ = _; simp [sameSeatD, e0]
    have hz := beq_ff e0
    clear e0
    repeat (go_big_quiet_step ((go_at_call 73; exact CE.out _)))
    refine wpQuiet_nil ?_
    intro _ hw'
    obtain ⟨nq, hw''⟩ := hw'
    subst hw''
    go_wp2
    go_ret
    exact ⟨by rw [HF.out]; rfl, _, rfl⟩
  subst e0
  by_cases e1 : a1 = c1
  rotate_left
  · have HF : Hid (sameSeatD ⟨a0, a1, a2, a3, a4, a5, a6, a7⟩ ⟨a0, c1, c2, c3, c4, c5, c6, c7⟩ = false) := by show _ = _; simp [sameSeatD, e1]
    have hz := beq_ff e1
    clear e1
    repeat (go_big_quiet_step ((go_at_call 73; exact CE.out _)))
    refine wpQuiet_nil ?_
    intro _ hw'
    obtain ⟨nq, hw''⟩ := hw'
    subst hw''
    go_wp2
    go_ret
    exact ⟨by rw [HF.out]; rfl, _, rfl⟩
  subst e1
  by_cases e2 : a2 = c2
  rotate_left
  · have HF : Hid (sameSeatD ⟨a0, a1, a2, a3, a4, a5, a6, a7⟩ ⟨a0, a1, c2, c3, c4, c5, c6, c7⟩ = false) := by show _ = _; simp [sameSeatD, e2]
    have hz := beq_ff e2
    clear e2
    repeat (go_big_quiet_step ((go_at_call 73; exact CE.out _)))
    refine wpQuiet_nil ?_
    intro _ hw'
    obtain ⟨nq, hw''⟩ := hw'
    subst hw''
    go_wp2
    go_ret
    exact ⟨by rw [HF.out]; rfl, _, rfl⟩
  subst e2
  by_cases e3 : a3 = c3
  rotate_left
  · have HF : Hid (sameSeatD ⟨a0, a1, a2, a3, a4, a5, a6, a7⟩ ⟨a0, a1, a2, c3, c4, c5, c6, c7⟩ = false) := by show _ = _; simp [sameSeatD, e3]
    have hz := beq_ff e3
    clear e3
    repeat (go_big_quiet_step ((go_at_call 73; exact CE.out _)))
    refine wpQuiet_nil ?_
    intro _ hw'
    obtain ⟨nq, hw''⟩ := hw'
    subst hw''
    go_wp2
    go_ret
    exact ⟨by rw [HF.out]; rfl, _, rfl⟩
  subst e3
  by_cases e4 : a4 = c4
  rotate_left
  · have HF : Hid (sameSeatD ⟨a0, a1, a2, a3, a4, a5, a6, a7⟩ ⟨a0, a1, a2, a3, c4, c5, c6, c7⟩ = false) := by show _ = _; simp [sameSeatD, e4]
    have hz := beq_ff e4
    clear e4
    repeat (go_big_quiet_step ((go_at_call 73; exact CE.out _)))
    refine wpQuiet_nil ?_
    intro _ hw'
    obtain ⟨nq, hw''⟩ := hw'
    subst hw''
    go_wp2
    go_ret
    exact ⟨by rw [HF.out]; rfl, _, rfl⟩
  subst e4
  by_cases e5 : a5 = c5
  rotate_left
  · have HF : Hid (sameSeatD ⟨a0, a1, a2, a3, a4, a5, a6, a7⟩ ⟨a0, a1, a2, a3, a4, c5, c6, c7⟩ = false) := by show _ = _; simp [sameSeatD, e5]
    have hz := beq_ff e5
    clear e5
    repeat (go_big_quiet_step ((go_at_call 73; exact CE.out _)))
    refine wpQuiet_nil ?_
    intro _ hw'
    obtain ⟨nq, hw''⟩ := hw'
    subst hw''
    go_wp2
    go_ret
    exact ⟨by rw [HF.out]; rfl, _, rfl⟩
  subst e5
  by_cases e7 : a7 = c7
  rotate_left
  · have HF : Hid (sameSeatD ⟨a0, a1, a2, a3, a4, a5, a6, a7⟩ ⟨a0, a1, a2, a3, a4, a5, c6, c7⟩ = false) := by show _ = _; simp [sameSeatD, e7]
    have hz := beq_ff e7
    clear e7
    repeat (go_big_quiet_step ((go_at_call 73; exact CE.out _)))
    refine wpQuiet_nil ?_
    intro _ hw'
    obtain ⟨nq, hw''⟩ := hw'
    subst hw''
    go_wp2
    go_ret
    exact ⟨by rw [HF.out]; rfl, _, rfl⟩
  subst e7
  cases a6 with
  | none =>
    have fc : v1 = .slice none 0 0 := fc
    subst fc
    cases c6 with
    | none =>
      have gc : v2 = .slice none 0 0 := gc
      subst gc
      have HF : Hid (sameSeatD ⟨a0, a1, a2, a3, a4, a5, none, a7⟩ ⟨a0, a1, a2, a3, a4, a5, none, a7⟩ = true) := by show _ = _; simp [sameSeatD]
      repeat (go_big_quiet_step ((go_at_call 73; exact CE.out _)))
      refine wpQuiet_nil ?_
      intro _ hw'
      obtain ⟨nq, hw''⟩ := hw'
      subst hw''
      go_wp2
      go_ret
      exact ⟨by rw [HF.out]; rfl, _, rfl⟩
    | some y =>
      obtain ⟨q, cap, rfl, _⟩ := gc
      have HF : Hid (sameSeatD ⟨a0, a1, a2, a3, a4, a5, none, a7⟩ ⟨a0, a1, a2, a3, a4, a5, some y, a7⟩ = false) := by show _ = _; simp [sameSeatD]
      repeat (go_big_quiet_step ((go_at_call 73; exact CE.out _)))
      refine wpQuiet_nil ?_
      intro _ hw'
      obtain ⟨nq, hw''⟩ := hw'
      subst hw''
      go_wp2
      go_ret
      exact ⟨by rw [HF.out]; rfl, _, rfl⟩
  | some x =>
    obtain ⟨p, cap1, rfl, _⟩ := fc
    cases c6 with
    | none =>
      have gc : v2 = .slice none 0 0 := gc
      subst gc
      have HF : Hid (sameSeatD ⟨a0, a1, a2, a3, a4, a5, some x, a7⟩ ⟨a0, a1, a2, a3, a4, a5, none, a7⟩ = false) := by show _ = _; simp [sameSeatD]
      repeat (go_big_quiet_step ((go_at_call 73; exact CE.out _)))
      refine wpQuiet_nil ?_
      intro _ hw'
      obtain ⟨nq, hw''⟩ := hw'
      subst hw''
      go_wp2
      go_ret
      exact ⟨by rw [HF.out]; rfl, _, rfl⟩
    | some y =>
      obtain ⟨q, cap, rfl, _⟩ := gc
      have HF : Hid (sameSeatD ⟨a0, a1, a2, a3, a4, a5, some x, a7⟩ ⟨a0, a1, a2, a3, a4, a5, some y, a7⟩ = (x == y)) := by show _ = _; simp [sameSeatD]
      repeat (go_big_quiet_step ((go_at_call 73; exact CE.out _)))
      refine wpQuiet_nil ?_
      intro _ hw'
      obtain ⟨nq, hw''⟩ := hw'
      subst hw''
      go_wp2
      go_ret
      exact ⟨by rw [HF.out]; rfl, _, rfl⟩
end Go.Proofs.Qxb6618929a
