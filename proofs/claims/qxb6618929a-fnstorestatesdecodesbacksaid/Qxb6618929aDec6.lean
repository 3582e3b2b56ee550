/-
  zzSameU8, zzSameSeat.
-/
import Derived.Test.Qxb6618929aDec5
import Derived.Test.Qxb6618929aBuild2
import Derived.Deep.CutBlock
namespace Go.Proofs.Qxb6618929a
open Go Go.RowKit

attribute [local go_sem] qz36 qs36

set_option maxRecDepth 100000 in
set_option maxHeartbeats 8000000 in
theorem sameU8 (v1 v2 : Value) (o1 o2 : Option (List UInt8)) (R R' : Nat → Prop) (w : World) (h1 : CardsAt w R v1 o1) (h2 : CardsAt w R' v2 o2) (hl : CardsOk o1) :
    Calls Try.prog 36 #[v1, v2] w fun e w' => e = .returned (.bool (o1 == o2)) ∧ ∃ m, w' = w.drewN m := by
  cases o1 with
  | none =>
    have h1 : v1 = .slice none 0 0 := h1
    subst h1
    cases o2 with
    | none =>
      have h2 : v2 = .slice none 0 0 := h2
      subst h2
      go_enter Try.func36, Try.ntmps36
      go_wp2
      go_loop [5, 20] (fun _ i => i = .int .i64 0) (fun _ _ => 0)
      case atStart => rfl
      case round =>
        subst hrel
        go_wp2
        go_ret
        exact ⟨rfl, 0, rfl⟩
    | some b =>
      obtain ⟨q, c, rfl, _⟩ := h2
      go_enter Try.func36, Try.ntmps36
      go_wp2
      go_ret
      exact ⟨rfl, 0, rfl⟩
  | some a =>
    obtain ⟨p, c1, rfl, k1⟩ := h1
    cases o2 with
    | none =>
      have h2 : v2 = .slice none 0 0 := h2
      subst h2
      clear k1
      go_enter Try.func36, Try.ntmps36
      go_wp2
      go_ret
      exact ⟨rfl, 0, rfl⟩
    | some b =>
      obtain ⟨q, c2, rfl, k2⟩ := h2
      have HAB : Hid ((some a == some b) = (a == b)) := rfl
      rw [HAB.out]
      unfold CardsOk at hl
      simp only [Option.getD_some] at hl
      by_cases hl2 : a.length = b.length
      rotate_left
      · have HF : Hid ((a == b) = false) := beq_false_of_ne (fun e => hl2 (by rw [e]))
        rw [HF.out]
        have hne : ((a.length : Int) != (b.length : Int)) = true := bne_iff_ne.2 (by omega)
        clear k1 k2 hl2
        go_enter Try.func36, Try.ntmps36
        go_wp2
        go_ret
        exact ⟨rfl, 0, rfl⟩
      have HL := hd hl2
      have hne : ((a.length : Int) != (b.length : Int)) = false := by simp; omega
      clear hl2
      have K1 := hd k1
      have K2 := hd k2
      clear k1 k2
      go_enter Try.func36, Try.ntmps36
      go_wp2
      go_loopw [5, 20] (fun _ i wr => ∃ k : Nat, k ≤ a.length ∧ i = .int .i64 k ∧ (∃ m, wr = w.drewN m) ∧ Hid (∀ j, j < k → a.getD j 0 = b.getD j 0)) (fun _ i _ => a.length - (intOf i).toNat)
      case atStart => exact ⟨0, Nat.zero_le _, rfl, ⟨0, rfl⟩, fun j hj => by omega⟩
      case round =>
        obtain ⟨k, hk, rfl, ⟨m, rfl⟩, HN⟩ := hrel
        by_cases hlt : k < a.length
        · obtain ⟨b1, f1, rfl, e1⟩ : ∃ b1 f1, p = ⟨b1, f1, none⟩ ∧ w.cell? ⟨b1, f1 + k, none⟩ = some (.int .u8 (a.getD k 0).toNat) := by
            rcases K1.out with h | ⟨b1, f1, h, _, hc⟩
            · omega
            · exact ⟨b1, f1, h, hc k hlt⟩
          obtain ⟨b2, f2, rfl, e2⟩ : ∃ b2 f2, q = ⟨b2, f2, none⟩ ∧ w.cell? ⟨b2, f2 + k, none⟩ = some (.int .u8 (b.getD k 0).toNat) := by
            have := HL.out
            rcases K2.out with h | ⟨b2, f2, h, _, hc⟩
            · omega
            · exact ⟨b2, f2, h, hc k (by omega)⟩
          have hltb : k < b.length := by have := HL.out; omega
          by_cases he : a.getD k 0 = b.getD k 0
          · have HN2 : Hid (∀ j, j < k + 1 → a.getD j 0 = b.getD j 0) := fun j hj => by
              by_cases e : j = k
              · subst e; exact he
              · exact HN.out j (by omega)
            rw [← he] at e2
            generalize a.getD k 0 = x at e1 e2
            clear he
            go_wp2
            go_quiet (fail)
            go_wp2
            go_roundw
            case rel => exact ⟨k + 1, by omega, by go_num, ⟨_, rfl⟩, HN2⟩
            case measure => simp [intOf]; omega
          · have HF : Hid ((a == b) = false) := beq_false_of_ne (fun e => he (by rw [e]))
            have hne2 := u8_ne he
            generalize a.getD k 0 = x at e1 hne2
            generalize b.getD k 0 = y at e2 hne2
            clear he
            go_wp2
            go_quiet (fail)
            go_wp2
            go_ret
            exact ⟨by rw [HF.out]; rfl, _, World.drewN_drewN _ _ _⟩
        · have HT : Hid ((a == b) = true) := by
            have := list_ext HL.out (fun j hj => HN.out j (by omega))
            show (a == b) = true
            rw [this]; simp
          go_wp2
          go_ret
          exact ⟨by rw [HT.out]; rfl, _, rfl⟩

theorem range_new2 (w : World) (xs cs : List Value) (t : TypeId) : ((w.alloc (.cells xs.toArray t)).alloc (.cells cs.toArray t)).rangeAt w.heap.size 0 xs ∧ ((w.alloc (.cells xs.toArray t)).alloc (.cells cs.toArray t)).rangeAt (w.heap.size + 1) 0 cs := by
  refine ⟨fun j v hv => ?_, fun j v hv => ?_⟩
  · rw [Nat.zero_add, Below.cell (B := w.heap.size + 1) (w := w.alloc (.cells xs.toArray t)) ((Below.refl _ _).alloc (by simp) _) (p := ⟨w.heap.size, j, none⟩) (Nat.lt_succ_self _), cell_of_row _ w.heap.size j _ t (0, 0) (heap_alloc_new w _)]
    simpa using hv
  · have e : (w.alloc (.cells xs.toArray t)).heap.size = w.heap.size + 1 := by simp
    rw [Nat.zero_add, ← e, cell_of_row _ _ j _ t (0, 0) (heap_alloc_new (w.alloc (.cells xs.toArray t)) _)]
    simpa using hv

set_option maxRecDepth 100000 in
set_option maxHeartbeats 20000000 in
theorem sameSeat37 (R R' : Nat → Prop) (d1 d2 : SeatD) (v1 v2 : Value) (w : World) (hR : ∀ k, R k → k < w.heap.size) (hR' : ∀ k, R' k → k < w.heap.size) (h1 : CardsAt w R v1 d1.cards) (h2 : CardsAt w R' v2 d2.cards) (k1 : CardsOk d1.cards) :
    Calls Try.prog 37 #[.agg (seatCells d1 v1).toArray, .agg (seatCells d2 v2).toArray] w fun e w' => e = .returned (.bool (sameSeatD d1 d2)) ∧ Below w.heap.size w w' := by
  have CE : Hid (∀ W', Below w.heap.size w W' → Calls Try.prog 36 #[v1, v2] W' fun e w' => e = .returned (.bool (d1.cards == d2.cards)) ∧ ∃ m, w' = W'.drewN m) := fun W' hb =>
    sameU8 v1 v2 _ _ R R' W' (h1.kept (Below.sameOf hb hR)) (h2.kept (Below.sameOf hb hR')) k1
  obtain ⟨x1, y1, z1, rfl⟩ := cards_form h1
  obtain ⟨x2, y2, z2, rfl⟩ := cards_form h2
  obtain ⟨a0, a1, a2, a3, a4, a5, a6, a7⟩ := d1
  obtain ⟨c0, c1, c2, c3, c4, c5, c6, c7⟩ := d2
  have HN := hd (range_new2 w (seatCells ⟨a0, a1, a2, a3, a4, a5, a6, a7⟩ (.slice x1 y1 z1)) (seatCells ⟨c0, c1, c2, c3, c4, c5, c6, c7⟩ (.slice x2 y2 z2)) 69)
  have HBW : Hid (Below w.heap.size w ((w.alloc (.cells (seatCells ⟨a0, a1, a2, a3, a4, a5, a6, a7⟩ (.slice x1 y1 z1)).toArray 69)).alloc (.cells (seatCells ⟨c0, c1, c2, c3, c4, c5, c6, c7⟩ (.slice x2 y2 z2)).toArray 69))) := ((Below.refl _ _).alloc (Nat.le_refl _) _).alloc (by simp) _
  clear h1 h2 k1
  generalize hs1 : (seatCells ⟨a0, a1, a2, a3, a4, a5, a6, a7⟩ (.slice x1 y1 z1)).toArray = q1 at HN HBW ⊢
  generalize hs2 : (seatCells ⟨c0, c1, c2, c3, c4, c5, c6, c7⟩ (.slice x2 y2 z2)).toArray = q2 at HN HBW ⊢
  clear hs1 hs2
  go_enter Try.func37, Try.ntmps37
  go_upto_region 1 with fail
  generalize (w.alloc (.cells q1 69)).alloc (.cells q2 69) = W2 at HN HBW ⊢
  obtain ⟨f0, f1, f2, f3, f4, f5, f6, f7⟩ : _ ∧ _ ∧ _ ∧ _ ∧ _ ∧ _ ∧ _ ∧ _ := ⟨HN.out.1 0 _ rfl, HN.out.1 1 _ rfl, HN.out.1 2 _ rfl, HN.out.1 3 _ rfl, HN.out.1 4 _ rfl, HN.out.1 5 _ rfl, HN.out.1 6 _ rfl, HN.out.1 7 _ rfl⟩
  obtain ⟨g0, g1, g2, g3, g4, g5, g6, g7⟩ : _ ∧ _ ∧ _ ∧ _ ∧ _ ∧ _ ∧ _ ∧ _ := ⟨HN.out.2 0 _ rfl, HN.out.2 1 _ rfl, HN.out.2 2 _ rfl, HN.out.2 3 _ rfl, HN.out.2 4 _ rfl, HN.out.2 5 _ rfl, HN.out.2 6 _ rfl, HN.out.2 7 _ rfl⟩
  simp only [encS, Nat.zero_add] at f0 f1 f2 f3 f4 f5 f6 f7 g0 g1 g2 g3 g4 g5 g6 g7
  have CW := hd (CE.out W2 HBW.out)
  clear CE HN
  by_cases e0 : a0 = c0
  rotate_left
  · have HF : Hid (sameSeatD ⟨a0, a1, a2, a3, a4, a5, a6, a7⟩ ⟨c0, c1, c2, c3, c4, c5, c6, c7⟩ = false) := by show _ = _; simp [sameSeatD, e0]
    have hz := beq_ff e0
    clear e0
    go_wp2_with (go_at_call 36; refine CW.out.mono ?_; rintro e w' ⟨rfl, m, rfl⟩)
    go_ret
    exact ⟨by rw [HF.out]; rfl, HBW.out⟩
  subst e0
  by_cases e1 : a1 = c1
  rotate_left
  · have HF : Hid (sameSeatD ⟨a0, a1, a2, a3, a4, a5, a6, a7⟩ ⟨a0, c1, c2, c3, c4, c5, c6, c7⟩ = false) := by show _ = _; simp [sameSeatD, e1]
    have hz := beq_ff e1
    clear e1
    go_wp2_with (go_at_call 36; refine CW.out.mono ?_; rintro e w' ⟨rfl, m, rfl⟩)
    go_ret
    exact ⟨by rw [HF.out]; rfl, HBW.out⟩
  subst e1
  by_cases e2 : a2 = c2
  rotate_left
  · have HF : Hid (sameSeatD ⟨a0, a1, a2, a3, a4, a5, a6, a7⟩ ⟨a0, a1, c2, c3, c4, c5, c6, c7⟩ = false) := by show _ = _; simp [sameSeatD, e2]
    have hz := beq_ff e2
    clear e2
    go_wp2_with (go_at_call 36; refine CW.out.mono ?_; rintro e w' ⟨rfl, m, rfl⟩)
    go_ret
    exact ⟨by rw [HF.out]; rfl, HBW.out⟩
  subst e2
  by_cases e3 : a3 = c3
  rotate_left
  · have HF : Hid (sameSeatD ⟨a0, a1, a2, a3, a4, a5, a6, a7⟩ ⟨a0, a1, a2, c3, c4, c5, c6, c7⟩ = false) := by show _ = _; simp [sameSeatD, e3]
    have hz := beq_ff e3
    clear e3
    go_wp2_with (go_at_call 36; refine CW.out.mono ?_; rintro e w' ⟨rfl, m, rfl⟩)
    go_ret
    exact ⟨by rw [HF.out]; rfl, HBW.out⟩
  subst e3
  by_cases e4 : a4 = c4
  rotate_left
  · have HF : Hid (sameSeatD ⟨a0, a1, a2, a3, a4, a5, a6, a7⟩ ⟨a0, a1, a2, a3, c4, c5, c6, c7⟩ = false) := by show _ = _; simp [sameSeatD, e4]
    have hz := beq_ff e4
    clear e4
    go_wp2_with (go_at_call 36; refine CW.out.mono ?_; rintro e w' ⟨rfl, m, rfl⟩)
    go_ret
    exact ⟨by rw [HF.out]; rfl, HBW.out⟩
  subst e4
  by_cases e5 : a5 = c5
  rotate_left
  · have HF : Hid (sameSeatD ⟨a0, a1, a2, a3, a4, a5, a6, a7⟩ ⟨a0, a1, a2, a3, a4, c5, c6, c7⟩ = false) := by show _ = _; simp [sameSeatD, e5]
    have hz := beq_ff e5
    clear e5
    go_wp2_with (go_at_call 36; refine CW.out.mono ?_; rintro e w' ⟨rfl, m, rfl⟩)
    go_ret
    exact ⟨by rw [HF.out]; rfl, HBW.out⟩
  subst e5
  by_cases e7 : a7 = c7
  rotate_left
  · have HF : Hid (sameSeatD ⟨a0, a1, a2, a3, a4, a5, a6, a7⟩ ⟨a0, a1, a2, a3, a4, a5, c6, c7⟩ = false) := by show _ = _; simp [sameSeatD, e7]
    have hz := beq_ff e7
    clear e7
    go_wp2_with (go_at_call 36; refine CW.out.mono ?_; rintro e w' ⟨rfl, m, rfl⟩)
    go_ret
    exact ⟨by rw [HF.out]; rfl, HBW.out⟩
  subst e7
  have HF : Hid (sameSeatD ⟨a0, a1, a2, a3, a4, a5, a6, a7⟩ ⟨a0, a1, a2, a3, a4, a5, c6, a7⟩ = (a6 == c6)) := by show _ = _; simp [sameSeatD]
  go_wp2_with (go_at_call 36; refine CW.out.mono ?_; rintro e w' ⟨rfl, m, rfl⟩)
  go_ret
  exact ⟨by rw [HF.out]; rfl, HBW.out.trans ⟨rfl, rfl, rfl, Nat.le_refl _, fun _ _ => rfl⟩⟩
end Go.Proofs.Qxb6618929a
