/-
  zzBuildState: the walk.
-/
import Derived.Test.Qxb6618929aBuild2
import Derived.Test.Qxb6618929aHold
namespace Go.Proofs.Qxb6618929a
open Go Go.RowKit

attribute [local go_sem] qn48z qn48s qn46

set_option linter.unusedSimpArgs false in
set_option maxHeartbeats 20000000 in
set_option maxRecDepth 100000 in
theorem buildState (z : ZIn) (R : Nat → Prop) (w : World) (h : ZAt w R z) (hR : ∀ k, R k → k < w.heap.size) (ok : ZOk z) :
    Calls Try.prog 27 #[.agg z.cells.toArray] w fun e w' => BuiltOut w z.d z.turn e w' := by
  obtain ⟨tr, HTR⟩ : ∃ tr, Hid (z.turn = tr) := ⟨_, rfl⟩
  rw [HTR.out]
  obtain ⟨W0, HW0⟩ : ∃ W0, Hid (W0 = w.alloc (.cells z.cells.toArray 50)) := ⟨_, rfl⟩
  have HZ := hd h
  have HR := hd hR
  have HOK := hd ok
  clear h hR ok
  have HSZ : Hid (W0.heap.size = w.heap.size + 1) := by show _ = _; rw [HW0.out]; simp
  have HCZ : Hid (∀ w', Below (w.heap.size + 1) W0 w' → ∀ j v, z.cells[j]? = some v → w'.cell? ⟨w.heap.size, j, none⟩ = some v) := fun w' hb j v hv => by
    rw [hb.cell (p := ⟨w.heap.size, j, none⟩) (Nat.lt_succ_self _), HW0.out, cell_of_row _ w.heap.size j _ 50 (0, 0) (heap_alloc_new w _)]
    simpa using hv
  have HT0 : Hid (∀ token left, TurnAt ((w.alloc (.cells z.cells.toArray 50)).alloc (.cells #[encS token, .int .i64 left, .slice none 0 0] 99)) (Fresh W0 ((w.alloc (.cells z.cells.toArray 50)).alloc (.cells #[encS token, .int .i64 left, .slice none 0 0] 99))) (.pointer (some ⟨w.heap.size + 1, 0, none⟩)) (some ⟨token, left, none⟩) ∧ Below (w.heap.size + 1) W0 ((w.alloc (.cells z.cells.toArray 50)).alloc (.cells #[encS token, .int .i64 left, .slice none 0 0] 99))) := fun token left => by
    have h := turn_new (W0 := W0) (wr := w.alloc (.cells z.cells.toArray 50)) HSZ.out (by rw [← HW0.out]; exact Below.refl _ _) token left (.slice none 0 0) none rfl
    rwa [show (w.alloc (.cells z.cells.toArray 50)).heap.size = w.heap.size + 1 by simp] at h
  obtain ⟨⟨type, seq, kind, eseat, action, amount, street, eboard, place, hand, sb, bb, ante, tstreet, button, board, pot, toAct, seats, resync⟩, hasTurn, token, left, legal, vES, vEB, vL, vB, vTA, vS⟩ := z
  simp only [ZIn.cells, encS]
  go_enter Try.func27, Try.ntmps27
  go_upto_if 11 with fail
  go_cut [3] (fun vT wc => Hid (TurnAt wc (Fresh W0 wc) vT tr ∧ Below (w.heap.size + 1) W0 wc))
  case first =>
    cases hasTurn with
    | false =>
      go_wp2
      go_meet
      case rel => exact ⟨by rw [← HTR.out]; rfl, HW0.out ▸ Below.refl _ _⟩
    | true =>
      cases legal with
      | none =>
        have hvl : vL = .slice none 0 0 := HZ.out.legal
        subst hvl
        go_wp2
        go_meet
        case rel => exact ⟨by rw [← HTR.out]; exact (HT0.out token left).1, (HT0.out token left).2⟩
      | some ls =>
        obtain ⟨al, capl, hvl, hls⟩ := HZ.out.legal
        have hvl : vL = .slice (some al) ls.length capl := hvl
        subst hvl
        obtain ⟨i1, hi1, hy0, hy1, hy2⟩ := info_parts Try.info101
        have hll : ls.length ≤ 1048577 := HOK.out.legal
        have key : ls.length ≤ 0 ∨ (0 < ls.length ∧ ∃ b off, al = ⟨b, off, none⟩ ∧ b < w.heap.size ∧ Hid (∀ i, i < ls.length → ∃ l : LegalD, ls[i]? = some l ∧ w.rangeAt b (off + i * 4) l.cells)) := by
          rcases hls with h0 | ⟨h0, b, off, rfl, hRb, HC⟩
          · exact .inl h0
          · exact .inr ⟨h0, b, off, rfl, HR.out b hRb, HC⟩
        clear hls
        rcases key with h0 | ⟨h0, b, off, rfl, hb, HC⟩
        all_goals
          go_wp2_with (at_make; refine wpList_make_full _ rfl _ _ 97 rfl (w.heap.size + 1) 101 i1 (.agg #[.string ⟨#[]⟩, .int .i64 0, .int .i64 0, .int .i64 0]) 4 Try.underlying97 hi1 hy0 hy1 _ _ _ _ ls.length rfl rfl rfl rfl (by rw [hy2]; omega) (by unfold maxLen; omega) (by simp) ?_; intro w1 hown hgrow; have hbl : Below (w.heap.size + 1) W0 w1 := (by rw [HW0.out]; exact (Below.refl _ _).grown hgrow (by simp) (fun k h => by cases h)); have hz12a := HCZ.out w1 hbl 12 _ rfl; have HBL := hd hbl; have HOWN := hd hown; clear hbl hown hgrow)
          have HI0 : Hid (LegalInv (w.heap.size + 1) W0 w1 (w.heap.size + 1) ls.length 0 ls) := by
            have hbl := HBL.out
            rcases HOWN.out.2 with ⟨h, _⟩ | ⟨g, cap, cur, h, _, hg, _, _, hsz1, _⟩
            · simp at h
            · have e1 : g = w.heap.size + 1 ∧ cap = ls.length := by
                simp only [Value.slice.injEq, Option.some.injEq, Addr.mk.injEq, and_true, true_and] at h
                exact ⟨by rw [← h.1]; simp, h.2.symm⟩
              obtain ⟨rfl, rfl⟩ := e1
              exact ⟨hbl, (Array.getElem?_eq_some_iff.1 hg).1, ⟨cur, hg, hsz1⟩, fun j hj => by omega⟩
          go_loopw [5, 6, 22] (fun _ _ i wr => ∃ k : Nat, k ≤ ls.length ∧ i = .int .i64 k ∧ Hid (LegalInv (w.heap.size + 1) W0 wr (w.heap.size + 1) ls.length k ls)) (fun _ _ i _ => ls.length - (intOf i).toNat)
          case atStart => exact ⟨0, Nat.zero_le _, rfl, HI0⟩
          case round =>
            obtain ⟨k, hk, rfl, HI⟩ := hrel
            have hz12 := HCZ.out wr HI.out.1 12 _ rfl
            have hz10 := HCZ.out wr HI.out.1 10 _ rfl
            have hz11 := HCZ.out wr HI.out.1 11 _ rfl
            simp only [encS] at hz12 hz10 hz11
            by_cases hlt : k < ls.length
            · try (exfalso; omega)
              all_goals
                obtain ⟨l, hlk, hrg⟩ := HC.out k hlt
                have hrg2 := range_below (HI.out.1.mono (Nat.le_succ _)) hb (range_below (HW0.out ▸ (Below.refl _ _).alloc (Nat.le_refl _) _) hb hrg)
                have e0 := hrg2 0 _ rfl
                have e1 := hrg2 1 _ rfl
                have e2 := hrg2 2 _ rfl
                have e3 := hrg2 3 _ rfl
                simp only [encS, Nat.add_zero] at e0 e1 e2 e3
                obtain ⟨HTH, HI2⟩ := HI.out.step (o := .cells #[.string ⟨l.action.toArray⟩, .int .i64 l.amount, .int .i64 l.min, .int .i64 l.max] 67) (Nat.le_refl _) hlt hlk
                have HTH := hd HTH
                have HI2 := hd HI2
                have HON : Hid (#[Value.string ⟨l.action.toArray⟩, .int .i64 l.amount, .int .i64 l.min, .int .i64 l.max].all (·.oneCell') = true) := by show _ = _; simp [Value.oneCell']
                clear hrg hrg2 hlk
                go_wp2_with ((refine wpList_store_mid2 rfl 101 _ _ rfl (w.heap.size + 1) (k * 4) #[.string ⟨l.action.toArray⟩, .int .i64 l.amount, .int .i64 l.min, .int .i64 l.max] rfl rfl HTH.out Try.size101 HON.out ?_; intro wz HWZ))
                go_roundw
                case rel => exact ⟨k + 1, by omega, by go_num, by rw [HWZ.out]; exact HI2⟩
                case measure => simp [intOf]; omega
            · have hkn : k = ls.length := by omega
              subst hkn
              have HTN := hd (turn_new HSZ.out HI.out.1 token left _ _ (legal_made HSZ.out HI.out (Nat.le_refl _) rfl))
              go_wp2
              go_meet
              case rel => exact ⟨by rw [← HTR.out]; exact HTN.out.1, HTN.out.2⟩
  case rest =>
    have HT1 := hd hcut.out.1
    have HB1 := hd hcut.out.2
    clear hcut
    have hz22 := HCZ.out wc HB1.out 22 _ rfl
    obtain ⟨ao, nz, cz, hvs⟩ : ∃ ao n c, vS = .slice ao n c := by
      obtain ⟨ao, cap, hv, _⟩ := HZ.out.seats.before
      exact ⟨ao, _, cap, hv⟩
    subst hvs
    have hsz1 := HB1.out.size
    rw [HSZ.out] at hsz1
    generalize wc = W1 at *
    go_upto_if 52 with fail
    go_cut [7] (fun vS' wd => Hid (SeatsAt wd (Fresh W1 wd) vS' seats ∧ Below W1.heap.size W1 wd))
    case first =>
      cases seats with
      | none =>
        have hvs : Value.slice ao nz cz = .slice none 0 0 := HZ.out.seats
        obtain ⟨rfl, rfl, rfl⟩ : ao = none ∧ nz = 0 ∧ cz = 0 := by injection hvs with h1 h2 h3; exact ⟨h1, h2, h3⟩
        go_wp2
        go_meet
        case rel => exact ⟨rfl, Below.refl _ _⟩
      | some ds =>
        obtain ⟨al, capl, hvs, hds⟩ := HZ.out.seats
        obtain ⟨rfl, rfl, rfl⟩ : ao = some al ∧ nz = ds.length ∧ cz = capl := by injection hvs with h1 h2 h3; exact ⟨h1, h2, h3⟩
        obtain ⟨i1, hi1, hy0, hy1, hy2⟩ := info103_parts
        have hll : ds.length ≤ 10923 := HOK.out.state.seats.many
        have HEA : Hid (∀ d ∈ ds, SeatOk d) := HOK.out.state.seats.each
        have HBY : Hid (i1.bytes * ds.length ≤ 281474976710656) := Nat.le_trans (Nat.mul_le_mul hy2 hll) (by omega)
        have HCB : Hid (∀ w', Below W1.heap.size W1 w' → Below (w.heap.size + 1) W0 w') := fun w' h => HB1.out.trans (h.mono hsz1)
        clear hy2
        rcases hds with h0 | ⟨h0, b, off, rfl, HC⟩
        all_goals
          go_wp2_with (at_make; refine wpList_make_full _ rfl _ _ 73 rfl W1.heap.size 103 i1 _ 8 Try.underlying73 hi1 hy0 hy1 _ _ _ _ ds.length rfl rfl rfl rfl HBY.out (by unfold maxLen; omega) (Nat.le_refl _) ?_; intro w1 hown hgrow; have hbl : Below W1.heap.size W1 w1 := (Below.refl _ _).grown hgrow (Nat.le_refl _) (fun k h => by cases h); have hz22a := HCZ.out w1 (HCB.out w1 hbl) 22 _ rfl; have HBL := hd hbl; have HOWN := hd hown; clear hbl hown hgrow)
          have HI0 : Hid (SeatsInv W1 w1 ds.length 0 ds) := by
            rcases HOWN.out.2 with ⟨h, _⟩ | ⟨g, cap, cur, h, _, hg, _, _, hsz1, _⟩
            · simp at h
            · have e1 : g = W1.heap.size ∧ cap = ds.length := by
                simp only [Value.slice.injEq, Option.some.injEq, Addr.mk.injEq, and_true, true_and] at h
                exact ⟨h.1.symm, h.2.symm⟩
              obtain ⟨rfl, rfl⟩ := e1
              exact ⟨HBL.out, (Array.getElem?_eq_some_iff.1 hg).1, ⟨cur, hg, hsz1⟩, fun j hj => by omega⟩
          go_loopw [8, 9, 60] (fun _ _ i wr => ∃ k : Nat, k ≤ ds.length ∧ i = .int .i64 k ∧ Hid (SeatsInv W1 wr ds.length k ds)) (fun _ _ i _ => ds.length - (intOf i).toNat)
          case atStart => exact ⟨0, Nat.zero_le _, rfl, HI0⟩
          case round =>
            obtain ⟨k, hk, rfl, HI⟩ := hrel
            have hz22b := HCZ.out wr (HCB.out wr HI.out.1) 22 _ rfl
            by_cases hlt : k < ds.length
            · try (exfalso; omega)
              all_goals
                obtain ⟨d, cv, hdk, hseat⟩ := HC.out k hlt
                have hbw : Below w.heap.size w wr := ((HW0.out ▸ (Below.refl _ _).alloc (Nat.le_refl _) _ : Below w.heap.size w W0)).trans ((HCB.out wr HI.out.1).mono (Nat.le_succ _))
                obtain ⟨ca, cn, cc, hcv⟩ : ∃ ca cn cc, cv = .slice ca cn cc := by
                  obtain ⟨ca, cc, hv, _⟩ := hseat.cards.row
                  exact ⟨ca, _, cc, hv⟩
                subst hcv
                have hseat2 := hseat.kept (Below.sameOf hbw HR.out)
                have hok := HEA.out d (List.mem_of_getElem? hdk)
                have hrw : w.heap.size ≤ wr.heap.size := hbw.size
                have e0 := hseat2.c0
                have e1 := hseat2.c1
                have e2 := hseat2.c2
                have e3 := hseat2.c3
                have e4 := hseat2.c4
                have e5 := hseat2.c5
                have e6 := hseat2.c6
                have e7 := hseat2.c7
                simp only [encS] at e1
                have HCD := hd (hseat2.cards.kept (Below.sameOf ((Below.refl wr.heap.size wr).alloc (Nat.le_refl _) (.cells (seatCells d (.slice ca cn cc)).toArray 69)).drew (fun i hi => Nat.lt_of_lt_of_le (HR.out i hi) hrw)))
                have HU := hd (u8cards (.slice ca cn cc) d.cards R (wr.alloc (.cells (seatCells d (.slice ca cn cc)).toArray 69)).drew HCD.out (fun i hi => by have := HR.out i hi; simp [World.drew]; omega) hok.cards)
                have HC8 : Hid (∀ w', Below (wr.heap.size + 1) (wr.alloc (.cells (seatCells d (.slice ca cn cc)).toArray 69)) w' → ∀ j v, (seatCells d (.slice ca cn cc))[j]? = some v → w'.cell? ⟨wr.heap.size, j, none⟩ = some v) := fun w' hb j v hv => by
                  rw [hb.cell (p := ⟨wr.heap.size, j, none⟩) (Nat.lt_succ_self _), cell_of_row _ wr.heap.size j _ 69 (0, 0) (heap_alloc_new wr _)]
                  simpa using hv
                have HDK := hd hdk
                have HOC := hd (cards_one hseat2.cards)
                clear hseat hseat2 hbw hok hdk
                go_wp2_with fail
                have HS0 : Hid (Below (wr.heap.size + 1) (wr.alloc (.cells (seatCells d (.slice ca cn cc)).toArray 69)) (wr.alloc (.cells (seatCells d (.slice ca cn cc)).toArray 69)).drew) := (Below.refl _ _).drew
                refine wp_region_Z (fun w' => Below (wr.heap.size + 1) (wr.alloc (.cells (seatCells d (.slice ca cn cc)).toArray 69)) w') 21 (by kernel_rfl) ?_
                show wpZ _ _ _ _ _ 22 (Array.replicate 22 false) _ _
                refine wpZ_take (i := 0) (v := .slice (some ⟨W1.heap.size, 0, none⟩) ds.length ds.length) [] rfl (by kernel_rfl) (by kernel_rfl) (by kernel_rfl) (by kernel_rfl) (fun _ _ _ h => h) (.inl ⟨rfl, fun w' hS => ?_⟩) HS0.out ?_
                · go_simp
                try simp only [Act.put, List.setIfInBounds_toArray, List.set_cons_zero, List.set_cons_succ]
                refine wpZ_take (i := 1) (v := .int .i64 k) [] rfl (by kernel_rfl) (by kernel_rfl) (by kernel_rfl) (by kernel_rfl) (fun _ _ _ h => h) (.inl ⟨rfl, fun w' hS => ?_⟩) HS0.out ?_
                · go_simp
                try simp only [Act.put, List.setIfInBounds_toArray, List.set_cons_zero, List.set_cons_succ]
                refine wpZ_take (i := 2) (v := .pointer (some ⟨wr.heap.size, 0, none⟩)) [] rfl (by kernel_rfl) (by kernel_rfl) (by kernel_rfl) (by kernel_rfl) (fun _ _ _ h => h) (.inl ⟨rfl, fun w' hS => ?_⟩) HS0.out ?_
                · go_simp
                try simp only [Act.put, List.setIfInBounds_toArray, List.set_cons_zero, List.set_cons_succ]
                refine wpZ_take (i := 3) (v := .int .i64 d.seat) [] rfl (by kernel_rfl) (by kernel_rfl) (by kernel_rfl) (by kernel_rfl) (fun _ _ _ h => h) (.inl ⟨rfl, fun w' hS => ?_⟩) HS0.out ?_
                · have kk := HC8.out _ hS 0 _ rfl
                  try simp only [encS] at kk
                  go_simp
                try simp only [Act.put, List.setIfInBounds_toArray, List.set_cons_zero, List.set_cons_succ]
                refine wpZ_take (i := 4) (v := .pointer (some ⟨wr.heap.size, 1, none⟩)) [] rfl (by kernel_rfl) (by kernel_rfl) (by kernel_rfl) (by kernel_rfl) (fun _ _ _ h => h) (.inl ⟨rfl, fun w' hS => ?_⟩) HS0.out ?_
                · go_simp
                try simp only [Act.put, List.setIfInBounds_toArray, List.set_cons_zero, List.set_cons_succ]
                refine wpZ_take (i := 5) (v := .string ⟨d.name.toArray⟩) [] rfl (by kernel_rfl) (by kernel_rfl) (by kernel_rfl) (by kernel_rfl) (fun _ _ _ h => h) (.inl ⟨rfl, fun w' hS => ?_⟩) HS0.out ?_
                · have kk := HC8.out _ hS 1 _ rfl
                  try simp only [encS] at kk
                  go_simp
                try simp only [Act.put, List.setIfInBounds_toArray, List.set_cons_zero, List.set_cons_succ]
                refine wpZ_take (i := 6) (v := .pointer (some ⟨wr.heap.size, 2, none⟩)) [] rfl (by kernel_rfl) (by kernel_rfl) (by kernel_rfl) (by kernel_rfl) (fun _ _ _ h => h) (.inl ⟨rfl, fun w' hS => ?_⟩) HS0.out ?_
                · go_simp
                try simp only [Act.put, List.setIfInBounds_toArray, List.set_cons_zero, List.set_cons_succ]
                refine wpZ_take (i := 7) (v := .int .i64 d.stack) [] rfl (by kernel_rfl) (by kernel_rfl) (by kernel_rfl) (by kernel_rfl) (fun _ _ _ h => h) (.inl ⟨rfl, fun w' hS => ?_⟩) HS0.out ?_
                · have kk := HC8.out _ hS 2 _ rfl
                  try simp only [encS] at kk
                  go_simp
                try simp only [Act.put, List.setIfInBounds_toArray, List.set_cons_zero, List.set_cons_succ]
                refine wpZ_take (i := 8) (v := .pointer (some ⟨wr.heap.size, 3, none⟩)) [] rfl (by kernel_rfl) (by kernel_rfl) (by kernel_rfl) (by kernel_rfl) (fun _ _ _ h => h) (.inl ⟨rfl, fun w' hS => ?_⟩) HS0.out ?_
                · go_simp
                try simp only [Act.put, List.setIfInBounds_toArray, List.set_cons_zero, List.set_cons_succ]
                refine wpZ_take (i := 9) (v := .int .i64 d.bet) [] rfl (by kernel_rfl) (by kernel_rfl) (by kernel_rfl) (by kernel_rfl) (fun _ _ _ h => h) (.inl ⟨rfl, fun w' hS => ?_⟩) HS0.out ?_
                · have kk := HC8.out _ hS 3 _ rfl
                  try simp only [encS] at kk
                  go_simp
                try simp only [Act.put, List.setIfInBounds_toArray, List.set_cons_zero, List.set_cons_succ]
                refine wpZ_take (i := 10) (v := .pointer (some ⟨wr.heap.size, 4, none⟩)) [] rfl (by kernel_rfl) (by kernel_rfl) (by kernel_rfl) (by kernel_rfl) (fun _ _ _ h => h) (.inl ⟨rfl, fun w' hS => ?_⟩) HS0.out ?_
                · go_simp
                try simp only [Act.put, List.setIfInBounds_toArray, List.set_cons_zero, List.set_cons_succ]
                refine wpZ_take (i := 11) (v := .bool d.folded) [] rfl (by kernel_rfl) (by kernel_rfl) (by kernel_rfl) (by kernel_rfl) (fun _ _ _ h => h) (.inl ⟨rfl, fun w' hS => ?_⟩) HS0.out ?_
                · have kk := HC8.out _ hS 4 _ rfl
                  try simp only [encS] at kk
                  go_simp
                try simp only [Act.put, List.setIfInBounds_toArray, List.set_cons_zero, List.set_cons_succ]
                refine wpZ_take (i := 12) (v := .pointer (some ⟨wr.heap.size, 5, none⟩)) [] rfl (by kernel_rfl) (by kernel_rfl) (by kernel_rfl) (by kernel_rfl) (fun _ _ _ h => h) (.inl ⟨rfl, fun w' hS => ?_⟩) HS0.out ?_
                · go_simp
                try simp only [Act.put, List.setIfInBounds_toArray, List.set_cons_zero, List.set_cons_succ]
                refine wpZ_take (i := 13) (v := .bool d.allIn) [] rfl (by kernel_rfl) (by kernel_rfl) (by kernel_rfl) (by kernel_rfl) (fun _ _ _ h => h) (.inl ⟨rfl, fun w' hS => ?_⟩) HS0.out ?_
                · have kk := HC8.out _ hS 5 _ rfl
                  try simp only [encS] at kk
                  go_simp
                try simp only [Act.put, List.setIfInBounds_toArray, List.set_cons_zero, List.set_cons_succ]
                refine wpZ_take (i := 14) (v := .pointer (some ⟨wr.heap.size, 6, none⟩)) [] rfl (by kernel_rfl) (by kernel_rfl) (by kernel_rfl) (by kernel_rfl) (fun _ _ _ h => h) (.inl ⟨rfl, fun w' hS => ?_⟩) HS0.out ?_
                · go_simp
                try simp only [Act.put, List.setIfInBounds_toArray, List.set_cons_zero, List.set_cons_succ]
                refine wpZ_take (i := 15) (v := .slice ca cn cc) [] rfl (by kernel_rfl) (by kernel_rfl) (by kernel_rfl) (by kernel_rfl) (fun _ _ _ h => h) (.inl ⟨rfl, fun w' hS => ?_⟩) HS0.out ?_
                · have kk := HC8.out _ hS 6 _ rfl
                  try simp only [encS] at kk
                  go_simp
                try simp only [Act.put, List.setIfInBounds_toArray, List.set_cons_zero, List.set_cons_succ]
                refine wpZ_take (i := 17) (v := .pointer (some ⟨wr.heap.size, 7, none⟩)) [] rfl (by kernel_rfl) (by kernel_rfl) (by kernel_rfl) (by kernel_rfl) (fun _ _ _ h => h) (.inl ⟨rfl, fun w' hS => ?_⟩) HS0.out ?_
                · go_simp
                try simp only [Act.put, List.setIfInBounds_toArray, List.set_cons_zero, List.set_cons_succ]
                refine wpZ_take (i := 18) (v := .bool d.conn) [] rfl (by kernel_rfl) (by kernel_rfl) (by kernel_rfl) (by kernel_rfl) (fun _ _ _ h => h) (.inl ⟨rfl, fun w' hS => ?_⟩) HS0.out ?_
                · have kk := HC8.out _ hS 7 _ rfl
                  try simp only [encS] at kk
                  go_simp
                try simp only [Act.put, List.setIfInBounds_toArray, List.set_cons_zero, List.set_cons_succ]
                refine wpZ_one (i := 16) (by kernel_rfl) (wpOp_want rfl rfl ?_)
                go_simp
                go_at_call 39
                refine HU.out.mono ?_
                rintro e w2 ⟨v', rfl, hcd, hbl⟩
                have hb2 : Below (wr.heap.size + 1) (wr.alloc (.cells (seatCells d (.slice ca cn cc)).toArray 69)) w2 := HS0.out.trans (hbl.mono (by simp [World.drew]))
                have hcd2 : CardsAt w2 (fun i => wr.heap.size < i ∧ i < w2.heap.size) v' d.cards := hcd.more (fun i hi => ⟨by have := hi.1; simp [World.drew] at this; omega, hi.2⟩)
                obtain ⟨va, vn, vc, hvv⟩ : ∃ va vn vc, v' = .slice va vn vc := by
                  obtain ⟨ca, cc, hv, _⟩ := hcd.row
                  exact ⟨ca, _, cc, hv⟩
                subst hvv
                obtain ⟨HTH, HI2⟩ := HI.out.step (o := .cells (seatCells d (.slice ca cn cc)).toArray 69) hlt HDK.out hb2 hcd2
                have HTH := hd HTH
                have HI2 := hd HI2
                have HS1 := hd hb2
                clear hcd hcd2 hbl hb2
                refine ⟨HS1.out, ?_⟩
                try simp only [Act.put, List.setIfInBounds_toArray, List.set_cons_zero, List.set_cons_succ]
                refine wpZ_take (i := 19) (v := .agg #[.int .i64 d.seat, .string ⟨d.name.toArray⟩, .int .i64 d.stack, .int .i64 d.bet, .bool d.folded, .bool d.allIn, .slice va vn vc, .bool d.conn]) [] rfl (by kernel_rfl) (by kernel_rfl) (by kernel_rfl) (by kernel_rfl) (fun _ _ _ h => h) (.inl ⟨rfl, fun w' hS => ?_⟩) HS1.out ?_
                · go_simp
                try simp only [Act.put, List.setIfInBounds_toArray, List.set_cons_zero, List.set_cons_succ]
                refine wpZ_take (i := 20) (v := .pointer (some ⟨W1.heap.size, k * 8, none⟩)) [] rfl (by kernel_rfl) (by kernel_rfl) (by kernel_rfl) (by kernel_rfl) (fun _ _ _ h => h) (.inl ⟨rfl, fun w' hS => ?_⟩) HS1.out ?_
                · go_simp
                try simp only [Act.put, List.setIfInBounds_toArray, List.set_cons_zero, List.set_cons_succ]
                refine wpZ_one (i := 21) (by kernel_rfl) (wpOp_want rfl rfl ?_)
                refine wp_store_mid 103 _ _ rfl W1.heap.size (k * 8) (seatCells d (.slice va vn vc)).toArray rfl rfl HTH.out Try.size103 (seat_one d _ rfl) ?_
                refine ⟨fun h => absurd rfl h, wpZ_done (by kernel_rfl) ?_⟩
                obtain ⟨wz, HWZ⟩ : ∃ wz, Hid (wz = w2.setCells W1.heap.size (k * 8) (seatCells d (.slice va vn vc))) := ⟨_, rfl⟩
                rw [show w2.setCells W1.heap.size (k * 8) (seatCells d (.slice va vn vc)).toArray.toList = wz from HWZ.out.symm]
                rw [← HWZ.out] at HI2
                clear HWZ HTH HS1 HS0 HU HC8
                go_wp2
                go_roundw
                case rel => exact ⟨k + 1, by omega, by go_num, HI2⟩
                case measure => simp [intOf]; omega
            · have hkn : k = ds.length := by omega
              subst hkn
              have HSM := hd (And.intro (seats_made HI.out rfl) HI.out.1)
              go_wp2
              go_meet
              case rel => exact HSM.out
    case rest =>
      have HS1 := hd hcut.out.1
      have HB2 := hd hcut.out.2
      clear hcut
      obtain ⟨pT, hpT⟩ := turn_form HT1.out
      subst hpT
      obtain ⟨sa, sn, sc, hsv⟩ := seats_form HS1.out
      subst hsv
      have HW1 : Hid (Below w.heap.size w W1) := (HW0.out ▸ (Below.refl _ _).alloc (Nat.le_refl _) _ : Below w.heap.size w W0).trans (HB1.out.mono (Nat.le_succ _))
      have HT2 := hd (turn_up (w := w) HT1.out (by rw [HSZ.out]; exact Nat.le_succ _) (Below.refl W1.heap.size W1))
      generalize wc = W2 at HS1 HB2 ⊢
      have HC9 := hd (fun (w' : World) (h : Below W2.heap.size W2 w') => HCZ.out w' (HB1.out.trans ((below_chain HB2.out h).mono hsz1)))
      have HWW : Hid (∀ w', Below W2.heap.size W2 w' → Same R w w' ∧ ∀ k, R k → k < w'.heap.size) := fun w' h =>
        have hb := below_chain HW1.out (below_chain HB2.out h)
        ⟨Below.sameOf hb HR.out, fun k hk => Nat.lt_of_lt_of_le (HR.out k hk) hb.size⟩
      have HS0 : Hid (Below W2.heap.size W2 W2.drew) := (Below.refl _ _).drew
      go_wp2_with fail
      refine wp_region_Z (fun w' => Below W2.heap.size W2 w') 49 (by kernel_rfl) ?_
      show wpZ _ _ _ _ _ 50 (Array.replicate 50 false) _ _
      refine wpZ_take (i := 0) (v := .pointer (some ⟨w.heap.size, 0, none⟩)) [] rfl (by kernel_rfl) (by kernel_rfl) (by kernel_rfl) (by kernel_rfl) (fun _ _ _ h => h) (.inl ⟨rfl, fun w' hS => ?_⟩) HS0.out ?_
      · go_simp
      try simp only [Act.put, List.setIfInBounds_toArray, List.set_cons_zero, List.set_cons_succ]
      refine wpZ_take (i := 1) (v := .string ⟨type.toArray⟩) [] rfl (by kernel_rfl) (by kernel_rfl) (by kernel_rfl) (by kernel_rfl) (fun _ _ _ h => h) (.inl ⟨rfl, fun w' hS => ?_⟩) HS0.out ?_
      · have kk := HC9.out _ hS 0 _ rfl
        try simp only [encS] at kk
        go_simp
      try simp only [Act.put, List.setIfInBounds_toArray, List.set_cons_zero, List.set_cons_succ]
      refine wpZ_take (i := 2) (v := .pointer (some ⟨w.heap.size, 1, none⟩)) [] rfl (by kernel_rfl) (by kernel_rfl) (by kernel_rfl) (by kernel_rfl) (fun _ _ _ h => h) (.inl ⟨rfl, fun w' hS => ?_⟩) HS0.out ?_
      · go_simp
      try simp only [Act.put, List.setIfInBounds_toArray, List.set_cons_zero, List.set_cons_succ]
      refine wpZ_take (i := 3) (v := .int .i64 seq) [] rfl (by kernel_rfl) (by kernel_rfl) (by kernel_rfl) (by kernel_rfl) (fun _ _ _ h => h) (.inl ⟨rfl, fun w' hS => ?_⟩) HS0.out ?_
      · have kk := HC9.out _ hS 1 _ rfl
        try simp only [encS] at kk
        go_simp
      try simp only [Act.put, List.setIfInBounds_toArray, List.set_cons_zero, List.set_cons_succ]
      refine wpZ_take (i := 4) (v := .pointer (some ⟨w.heap.size, 2, none⟩)) [] rfl (by kernel_rfl) (by kernel_rfl) (by kernel_rfl) (by kernel_rfl) (fun _ _ _ h => h) (.inl ⟨rfl, fun w' hS => ?_⟩) HS0.out ?_
      · go_simp
      try simp only [Act.put, List.setIfInBounds_toArray, List.set_cons_zero, List.set_cons_succ]
      refine wpZ_take (i := 5) (v := .string ⟨kind.toArray⟩) [] rfl (by kernel_rfl) (by kernel_rfl) (by kernel_rfl) (by kernel_rfl) (fun _ _ _ h => h) (.inl ⟨rfl, fun w' hS => ?_⟩) HS0.out ?_
      · have kk := HC9.out _ hS 2 _ rfl
        try simp only [encS] at kk
        go_simp
      try simp only [Act.put, List.setIfInBounds_toArray, List.set_cons_zero, List.set_cons_succ]
      refine wpZ_take (i := 6) (v := .pointer (some ⟨w.heap.size, 3, none⟩)) [] rfl (by kernel_rfl) (by kernel_rfl) (by kernel_rfl) (by kernel_rfl) (fun _ _ _ h => h) (.inl ⟨rfl, fun w' hS => ?_⟩) HS0.out ?_
      · go_simp
      try simp only [Act.put, List.setIfInBounds_toArray, List.set_cons_zero, List.set_cons_succ]
      refine wpZ_take (i := 7) (v := vES) [] rfl (by kernel_rfl) (by kernel_rfl) (by kernel_rfl) (by kernel_rfl) (fun _ _ _ h => h) (.inl ⟨rfl, fun w' hS => ?_⟩) HS0.out ?_
      · have kk := HC9.out _ hS 3 _ rfl
        try simp only [encS] at kk
        go_simp
      try simp only [Act.put, List.setIfInBounds_toArray, List.set_cons_zero, List.set_cons_succ]
      refine wpZ_take (i := 9) (v := .pointer (some ⟨w.heap.size, 4, none⟩)) [] rfl (by kernel_rfl) (by kernel_rfl) (by kernel_rfl) (by kernel_rfl) (fun _ _ _ h => h) (.inl ⟨rfl, fun w' hS => ?_⟩) HS0.out ?_
      · go_simp
      try simp only [Act.put, List.setIfInBounds_toArray, List.set_cons_zero, List.set_cons_succ]
      refine wpZ_take (i := 10) (v := .string ⟨action.toArray⟩) [] rfl (by kernel_rfl) (by kernel_rfl) (by kernel_rfl) (by kernel_rfl) (fun _ _ _ h => h) (.inl ⟨rfl, fun w' hS => ?_⟩) HS0.out ?_
      · have kk := HC9.out _ hS 4 _ rfl
        try simp only [encS] at kk
        go_simp
      try simp only [Act.put, List.setIfInBounds_toArray, List.set_cons_zero, List.set_cons_succ]
      refine wpZ_take (i := 11) (v := .pointer (some ⟨w.heap.size, 5, none⟩)) [] rfl (by kernel_rfl) (by kernel_rfl) (by kernel_rfl) (by kernel_rfl) (fun _ _ _ h => h) (.inl ⟨rfl, fun w' hS => ?_⟩) HS0.out ?_
      · go_simp
      try simp only [Act.put, List.setIfInBounds_toArray, List.set_cons_zero, List.set_cons_succ]
      refine wpZ_take (i := 12) (v := .int .i64 amount) [] rfl (by kernel_rfl) (by kernel_rfl) (by kernel_rfl) (by kernel_rfl) (fun _ _ _ h => h) (.inl ⟨rfl, fun w' hS => ?_⟩) HS0.out ?_
      · have kk := HC9.out _ hS 5 _ rfl
        try simp only [encS] at kk
        go_simp
      try simp only [Act.put, List.setIfInBounds_toArray, List.set_cons_zero, List.set_cons_succ]
      refine wpZ_take (i := 13) (v := .pointer (some ⟨w.heap.size, 6, none⟩)) [] rfl (by kernel_rfl) (by kernel_rfl) (by kernel_rfl) (by kernel_rfl) (fun _ _ _ h => h) (.inl ⟨rfl, fun w' hS => ?_⟩) HS0.out ?_
      · go_simp
      try simp only [Act.put, List.setIfInBounds_toArray, List.set_cons_zero, List.set_cons_succ]
      refine wpZ_take (i := 14) (v := .string ⟨street.toArray⟩) [] rfl (by kernel_rfl) (by kernel_rfl) (by kernel_rfl) (by kernel_rfl) (fun _ _ _ h => h) (.inl ⟨rfl, fun w' hS => ?_⟩) HS0.out ?_
      · have kk := HC9.out _ hS 6 _ rfl
        try simp only [encS] at kk
        go_simp
      try simp only [Act.put, List.setIfInBounds_toArray, List.set_cons_zero, List.set_cons_succ]
      refine wpZ_take (i := 15) (v := .pointer (some ⟨w.heap.size, 7, none⟩)) [] rfl (by kernel_rfl) (by kernel_rfl) (by kernel_rfl) (by kernel_rfl) (fun _ _ _ h => h) (.inl ⟨rfl, fun w' hS => ?_⟩) HS0.out ?_
      · go_simp
      try simp only [Act.put, List.setIfInBounds_toArray, List.set_cons_zero, List.set_cons_succ]
      refine wpZ_take (i := 16) (v := vEB) [] rfl (by kernel_rfl) (by kernel_rfl) (by kernel_rfl) (by kernel_rfl) (fun _ _ _ h => h) (.inl ⟨rfl, fun w' hS => ?_⟩) HS0.out ?_
      · have kk := HC9.out _ hS 7 _ rfl
        try simp only [encS] at kk
        go_simp
      try simp only [Act.put, List.setIfInBounds_toArray, List.set_cons_zero, List.set_cons_succ]
      refine wpZ_take (i := 18) (v := .pointer (some ⟨w.heap.size, 8, none⟩)) [] rfl (by kernel_rfl) (by kernel_rfl) (by kernel_rfl) (by kernel_rfl) (fun _ _ _ h => h) (.inl ⟨rfl, fun w' hS => ?_⟩) HS0.out ?_
      · go_simp
      try simp only [Act.put, List.setIfInBounds_toArray, List.set_cons_zero, List.set_cons_succ]
      refine wpZ_take (i := 19) (v := .int .i64 place) [] rfl (by kernel_rfl) (by kernel_rfl) (by kernel_rfl) (by kernel_rfl) (fun _ _ _ h => h) (.inl ⟨rfl, fun w' hS => ?_⟩) HS0.out ?_
      · have kk := HC9.out _ hS 8 _ rfl
        try simp only [encS] at kk
        go_simp
      try simp only [Act.put, List.setIfInBounds_toArray, List.set_cons_zero, List.set_cons_succ]
      refine wpZ_take (i := 22) (v := .pointer (some ⟨w.heap.size, 13, none⟩)) [] rfl (by kernel_rfl) (by kernel_rfl) (by kernel_rfl) (by kernel_rfl) (fun _ _ _ h => h) (.inl ⟨rfl, fun w' hS => ?_⟩) HS0.out ?_
      · go_simp
      try simp only [Act.put, List.setIfInBounds_toArray, List.set_cons_zero, List.set_cons_succ]
      refine wpZ_take (i := 23) (v := .int .i64 hand) [] rfl (by kernel_rfl) (by kernel_rfl) (by kernel_rfl) (by kernel_rfl) (fun _ _ _ h => h) (.inl ⟨rfl, fun w' hS => ?_⟩) HS0.out ?_
      · have kk := HC9.out _ hS 13 _ rfl
        try simp only [encS] at kk
        go_simp
      try simp only [Act.put, List.setIfInBounds_toArray, List.set_cons_zero, List.set_cons_succ]
      refine wpZ_take (i := 24) (v := .pointer (some ⟨w.heap.size, 14, none⟩)) [] rfl (by kernel_rfl) (by kernel_rfl) (by kernel_rfl) (by kernel_rfl) (fun _ _ _ h => h) (.inl ⟨rfl, fun w' hS => ?_⟩) HS0.out ?_
      · go_simp
      try simp only [Act.put, List.setIfInBounds_toArray, List.set_cons_zero, List.set_cons_succ]
      refine wpZ_take (i := 25) (v := .int .i64 sb) [] rfl (by kernel_rfl) (by kernel_rfl) (by kernel_rfl) (by kernel_rfl) (fun _ _ _ h => h) (.inl ⟨rfl, fun w' hS => ?_⟩) HS0.out ?_
      · have kk := HC9.out _ hS 14 _ rfl
        try simp only [encS] at kk
        go_simp
      try simp only [Act.put, List.setIfInBounds_toArray, List.set_cons_zero, List.set_cons_succ]
      refine wpZ_take (i := 26) (v := .pointer (some ⟨w.heap.size, 15, none⟩)) [] rfl (by kernel_rfl) (by kernel_rfl) (by kernel_rfl) (by kernel_rfl) (fun _ _ _ h => h) (.inl ⟨rfl, fun w' hS => ?_⟩) HS0.out ?_
      · go_simp
      try simp only [Act.put, List.setIfInBounds_toArray, List.set_cons_zero, List.set_cons_succ]
      refine wpZ_take (i := 27) (v := .int .i64 bb) [] rfl (by kernel_rfl) (by kernel_rfl) (by kernel_rfl) (by kernel_rfl) (fun _ _ _ h => h) (.inl ⟨rfl, fun w' hS => ?_⟩) HS0.out ?_
      · have kk := HC9.out _ hS 15 _ rfl
        try simp only [encS] at kk
        go_simp
      try simp only [Act.put, List.setIfInBounds_toArray, List.set_cons_zero, List.set_cons_succ]
      refine wpZ_take (i := 29) (v := .pointer (some ⟨w.heap.size, 16, none⟩)) [] rfl (by kernel_rfl) (by kernel_rfl) (by kernel_rfl) (by kernel_rfl) (fun _ _ _ h => h) (.inl ⟨rfl, fun w' hS => ?_⟩) HS0.out ?_
      · go_simp
      try simp only [Act.put, List.setIfInBounds_toArray, List.set_cons_zero, List.set_cons_succ]
      refine wpZ_take (i := 30) (v := .int .i64 ante) [] rfl (by kernel_rfl) (by kernel_rfl) (by kernel_rfl) (by kernel_rfl) (fun _ _ _ h => h) (.inl ⟨rfl, fun w' hS => ?_⟩) HS0.out ?_
      · have kk := HC9.out _ hS 16 _ rfl
        try simp only [encS] at kk
        go_simp
      try simp only [Act.put, List.setIfInBounds_toArray, List.set_cons_zero, List.set_cons_succ]
      refine wpZ_take (i := 31) (v := .pointer (some ⟨w.heap.size, 17, none⟩)) [] rfl (by kernel_rfl) (by kernel_rfl) (by kernel_rfl) (by kernel_rfl) (fun _ _ _ h => h) (.inl ⟨rfl, fun w' hS => ?_⟩) HS0.out ?_
      · go_simp
      try simp only [Act.put, List.setIfInBounds_toArray, List.set_cons_zero, List.set_cons_succ]
      refine wpZ_take (i := 32) (v := .string ⟨tstreet.toArray⟩) [] rfl (by kernel_rfl) (by kernel_rfl) (by kernel_rfl) (by kernel_rfl) (fun _ _ _ h => h) (.inl ⟨rfl, fun w' hS => ?_⟩) HS0.out ?_
      · have kk := HC9.out _ hS 17 _ rfl
        try simp only [encS] at kk
        go_simp
      try simp only [Act.put, List.setIfInBounds_toArray, List.set_cons_zero, List.set_cons_succ]
      refine wpZ_take (i := 33) (v := .pointer (some ⟨w.heap.size, 18, none⟩)) [] rfl (by kernel_rfl) (by kernel_rfl) (by kernel_rfl) (by kernel_rfl) (fun _ _ _ h => h) (.inl ⟨rfl, fun w' hS => ?_⟩) HS0.out ?_
      · go_simp
      try simp only [Act.put, List.setIfInBounds_toArray, List.set_cons_zero, List.set_cons_succ]
      refine wpZ_take (i := 34) (v := .int .i64 button) [] rfl (by kernel_rfl) (by kernel_rfl) (by kernel_rfl) (by kernel_rfl) (fun _ _ _ h => h) (.inl ⟨rfl, fun w' hS => ?_⟩) HS0.out ?_
      · have kk := HC9.out _ hS 18 _ rfl
        try simp only [encS] at kk
        go_simp
      try simp only [Act.put, List.setIfInBounds_toArray, List.set_cons_zero, List.set_cons_succ]
      refine wpZ_take (i := 35) (v := .pointer (some ⟨w.heap.size, 19, none⟩)) [] rfl (by kernel_rfl) (by kernel_rfl) (by kernel_rfl) (by kernel_rfl) (fun _ _ _ h => h) (.inl ⟨rfl, fun w' hS => ?_⟩) HS0.out ?_
      · go_simp
      try simp only [Act.put, List.setIfInBounds_toArray, List.set_cons_zero, List.set_cons_succ]
      refine wpZ_take (i := 36) (v := vB) [] rfl (by kernel_rfl) (by kernel_rfl) (by kernel_rfl) (by kernel_rfl) (fun _ _ _ h => h) (.inl ⟨rfl, fun w' hS => ?_⟩) HS0.out ?_
      · have kk := HC9.out _ hS 19 _ rfl
        try simp only [encS] at kk
        go_simp
      try simp only [Act.put, List.setIfInBounds_toArray, List.set_cons_zero, List.set_cons_succ]
      refine wpZ_take (i := 38) (v := .pointer (some ⟨w.heap.size, 20, none⟩)) [] rfl (by kernel_rfl) (by kernel_rfl) (by kernel_rfl) (by kernel_rfl) (fun _ _ _ h => h) (.inl ⟨rfl, fun w' hS => ?_⟩) HS0.out ?_
      · go_simp
      try simp only [Act.put, List.setIfInBounds_toArray, List.set_cons_zero, List.set_cons_succ]
      refine wpZ_take (i := 39) (v := .int .i64 pot) [] rfl (by kernel_rfl) (by kernel_rfl) (by kernel_rfl) (by kernel_rfl) (fun _ _ _ h => h) (.inl ⟨rfl, fun w' hS => ?_⟩) HS0.out ?_
      · have kk := HC9.out _ hS 20 _ rfl
        try simp only [encS] at kk
        go_simp
      try simp only [Act.put, List.setIfInBounds_toArray, List.set_cons_zero, List.set_cons_succ]
      refine wpZ_take (i := 40) (v := .pointer (some ⟨w.heap.size, 21, none⟩)) [] rfl (by kernel_rfl) (by kernel_rfl) (by kernel_rfl) (by kernel_rfl) (fun _ _ _ h => h) (.inl ⟨rfl, fun w' hS => ?_⟩) HS0.out ?_
      · go_simp
      try simp only [Act.put, List.setIfInBounds_toArray, List.set_cons_zero, List.set_cons_succ]
      refine wpZ_take (i := 41) (v := vTA) [] rfl (by kernel_rfl) (by kernel_rfl) (by kernel_rfl) (by kernel_rfl) (fun _ _ _ h => h) (.inl ⟨rfl, fun w' hS => ?_⟩) HS0.out ?_
      · have kk := HC9.out _ hS 21 _ rfl
        try simp only [encS] at kk
        go_simp
      try simp only [Act.put, List.setIfInBounds_toArray, List.set_cons_zero, List.set_cons_succ]
      refine wpZ_take (i := 45) (v := .pointer (some ⟨w.heap.size, 23, none⟩)) [] rfl (by kernel_rfl) (by kernel_rfl) (by kernel_rfl) (by kernel_rfl) (fun _ _ _ h => h) (.inl ⟨rfl, fun w' hS => ?_⟩) HS0.out ?_
      · go_simp
      try simp only [Act.put, List.setIfInBounds_toArray, List.set_cons_zero, List.set_cons_succ]
      refine wpZ_take (i := 46) (v := .bool resync) [] rfl (by kernel_rfl) (by kernel_rfl) (by kernel_rfl) (by kernel_rfl) (fun _ _ _ h => h) (.inl ⟨rfl, fun w' hS => ?_⟩) HS0.out ?_
      · have kk := HC9.out _ hS 23 _ rfl
        try simp only [encS] at kk
        go_simp
      try simp only [Act.put, List.setIfInBounds_toArray, List.set_cons_zero, List.set_cons_succ]
      refine wpZ_take (i := 21) (v := .pointer pT) [] rfl (by kernel_rfl) (by kernel_rfl) (by kernel_rfl) (by kernel_rfl) (fun _ _ _ h => h) (.inl ⟨rfl, fun w' hS => ?_⟩) HS0.out ?_
      · go_simp
      try simp only [Act.put, List.setIfInBounds_toArray, List.set_cons_zero, List.set_cons_succ]
      refine wpZ_take (i := 43) (v := .slice sa sn sc) [] rfl (by kernel_rfl) (by kernel_rfl) (by kernel_rfl) (by kernel_rfl) (fun _ _ _ h => h) (.inl ⟨rfl, fun w' hS => ?_⟩) HS0.out ?_
      · go_simp
      try simp only [Act.put, List.setIfInBounds_toArray, List.set_cons_zero, List.set_cons_succ]
      refine wpZ_take (i := 28) (v := .agg #[.int .i64 sb, .int .i64 bb]) [] rfl (by kernel_rfl) (by kernel_rfl) (by kernel_rfl) (by kernel_rfl) (fun _ _ _ h => h) (.inl ⟨rfl, fun w' hS => ?_⟩) HS0.out ?_
      · go_simp
      try simp only [Act.put, List.setIfInBounds_toArray, List.set_cons_zero, List.set_cons_succ]
      refine wpZ_one (i := 8) (by kernel_rfl) (wpOp_want rfl rfl ?_)
      go_simp
      go_at_call 40
      refine (copyInt vES eseat R _ (HZ.out.eseat.kept (HWW.out _ HS0.out).1)).mono ?_
      rintro e w3 ⟨vES2, rfl, hx, hb⟩
      have HX8 := hd hx
      have HB8 := hd hb
      have HS8 : Hid (Below W2.heap.size W2 w3) := below_chain HS0.out hb
      obtain ⟨pE, hpE⟩ := opt_form hx
      subst hpE
      clear hx hb
      refine ⟨HS8.out, ?_⟩
      try simp only [Act.put, List.setIfInBounds_toArray, List.set_cons_zero, List.set_cons_succ]
      refine wpZ_one (i := 17) (by kernel_rfl) (wpOp_want rfl rfl ?_)
      go_simp
      go_at_call 39
      refine (u8cards vEB eboard R _ (HZ.out.eboard.kept (HWW.out _ HS8.out).1) (HWW.out _ HS8.out).2 HOK.out.state.eboard).mono ?_
      rintro e w4 ⟨vEB2, rfl, hx, hb⟩
      have HX17 := hd hx
      have HB17 := hd hb
      have HS17 : Hid (Below W2.heap.size W2 w4) := below_chain HS8.out hb
      obtain ⟨eba, ebn, ebc, heb⟩ := cards_form hx
      subst heb
      clear hx hb
      refine ⟨HS17.out, ?_⟩
      try simp only [Act.put, List.setIfInBounds_toArray, List.set_cons_zero, List.set_cons_succ]
      refine wpZ_take (i := 20) (v := .agg #[.string ⟨kind.toArray⟩, .pointer pE, .string ⟨action.toArray⟩, .int .i64 amount, .string ⟨street.toArray⟩, .slice eba ebn ebc, .int .i64 place]) [] rfl (by kernel_rfl) (by kernel_rfl) (by kernel_rfl) (by kernel_rfl) (fun _ _ _ h => h) (.inl ⟨rfl, fun w' hS => ?_⟩) HS17.out ?_
      · go_simp
      try simp only [Act.put, List.setIfInBounds_toArray, List.set_cons_zero, List.set_cons_succ]
      refine wpZ_one (i := 37) (by kernel_rfl) (wpOp_want rfl rfl ?_)
      go_simp
      go_at_call 39
      refine (u8cards vB board R _ (HZ.out.board.kept (HWW.out _ HS17.out).1) (HWW.out _ HS17.out).2 HOK.out.state.board).mono ?_
      rintro e w5 ⟨vB2, rfl, hx, hb⟩
      have HX37 := hd hx
      have HB37 := hd hb
      have HS37 : Hid (Below W2.heap.size W2 w5) := below_chain HS17.out hb
      obtain ⟨boa, bon, boc, hbo⟩ := cards_form hx
      subst hbo
      clear hx hb
      refine ⟨HS37.out, ?_⟩
      try simp only [Act.put, List.setIfInBounds_toArray, List.set_cons_zero, List.set_cons_succ]
      refine wpZ_one (i := 42) (by kernel_rfl) (wpOp_want rfl rfl ?_)
      go_simp
      go_at_call 40
      refine (copyInt vTA toAct R _ (HZ.out.toAct.kept (HWW.out _ HS37.out).1)).mono ?_
      rintro e w6 ⟨vTA2, rfl, hx, hb⟩
      have HX42 := hd hx
      have HB42 := hd hb
      have HS42 : Hid (Below W2.heap.size W2 w6) := below_chain HS37.out hb
      obtain ⟨pA, hpA⟩ := opt_form hx
      subst hpA
      clear hx hb
      refine ⟨HS42.out, ?_⟩
      try simp only [Act.put, List.setIfInBounds_toArray, List.set_cons_zero, List.set_cons_succ]
      refine wpZ_take (i := 44) (v := .agg #[.int .i64 hand, .int .i64 sb, .int .i64 bb, .int .i64 ante, .string ⟨tstreet.toArray⟩, .int .i64 button, .slice boa bon boc, .int .i64 pot, .pointer pA, .slice sa sn sc]) [] rfl (by kernel_rfl) (by kernel_rfl) (by kernel_rfl) (by kernel_rfl) (fun _ _ _ h => h) (.inl ⟨rfl, fun w' hS => ?_⟩) HS42.out ?_
      · go_simp
      try simp only [Act.put, List.setIfInBounds_toArray, List.set_cons_zero, List.set_cons_succ]
      refine wpZ_take (i := 47) (v := .agg #[.string ⟨type.toArray⟩, .int .i64 seq, .string ⟨kind.toArray⟩, .pointer pE, .string ⟨action.toArray⟩, .int .i64 amount, .string ⟨street.toArray⟩, .slice eba ebn ebc, .int .i64 place, .pointer pT, .int .i64 hand, .int .i64 sb, .int .i64 bb, .int .i64 ante, .string ⟨tstreet.toArray⟩, .int .i64 button, .slice boa bon boc, .int .i64 pot, .pointer pA, .slice sa sn sc, .bool resync]) [] rfl (by kernel_rfl) (by kernel_rfl) (by kernel_rfl) (by kernel_rfl) (fun _ _ _ h => h) (.inl ⟨rfl, fun w' hS => ?_⟩) HS42.out ?_
      · go_simp
      try simp only [Act.put, List.setIfInBounds_toArray, List.set_cons_zero, List.set_cons_succ]
      have HS48 : Hid (∀ o, Below W2.heap.size W2 (w6.alloc o)) := fun o => HS42.out.alloc HS42.out.size o
      refine wpZ_one (i := 48) (by kernel_rfl) (wpOp_want rfl rfl ?_)
      go_simp
      refine ⟨HS48.out _, ?_⟩
      try simp only [Act.put, List.setIfInBounds_toArray, List.set_cons_zero, List.set_cons_succ]
      refine wpZ_one (i := 49) (by kernel_rfl) (wpOp_want rfl rfl ?_)
      go_simp
      refine wpZ_done (by kernel_rfl) ?_
      have HFIN := hd (state_new (d := ⟨type, seq, kind, eseat, action, amount, street, eboard, place, hand, sb, bb, ante, tstreet, button, board, pot, toAct, seats, resync⟩) HW1.out HT2.out HB2.out HS1.out HS8.out HX8.out HB17.out HX17.out HB37.out HX37.out HB42.out HX42.out)
      go_wp2
      go_ret
      exact ⟨w6.heap.size, .pointer pE, .slice eba ebn ebc, .pointer pT, .slice boa bon boc, .pointer pA, .slice sa sn sc, rfl, HFIN.out⟩
end Go.Proofs.Qxb6618929a
