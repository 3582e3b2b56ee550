/-
  zzSameState of what is the same.
-/
import Derived.Test.Qxb6618929aDec9
namespace Go.Proofs.Qxb6618929a
open Go Go.RowKit

attribute [local go_sem] qz46 qs46

theorem same_self (d : SeatD) : sameSeatD d d = true := by simp [sameSeatD]
theorem seats_both {w : World} {R R' : Nat → Prop} {v v' : Value} {ds : List SeatD} {k : Nat} (h : SeatsAt w R v (some ds)) (h' : SeatsAt w R' v' (some ds)) (hk : k < ds.length) :
    ∃ (b o c b' o' c' : Nat) (d : SeatD) (a1 : Option Addr) (n1 c1 : Nat) (a2 : Option Addr) (n2 c2 : Nat), v = .slice (some ⟨b, o, none⟩) ds.length c ∧ v' = .slice (some ⟨b', o', none⟩) ds.length c' ∧ Hid (R b ∧ w.rangeAt b (o + k * 8) (seatCells d (.slice a1 n1 c1)) ∧ R' b' ∧ w.rangeAt b' (o' + k * 8) (seatCells d (.slice a2 n2 c2)) ∧ d ∈ ds ∧
      CardsAt w R (.slice a1 n1 c1) d.cards ∧ CardsAt w R' (.slice a2 n2 c2) d.cards) := by
  obtain ⟨a, c, rfl, h2⟩ := h
  obtain ⟨a', c', rfl, h2'⟩ := h'
  rcases h2 with h2 | ⟨_, b, o, rfl, HC⟩
  · omega
  rcases h2' with h2' | ⟨_, b', o', rfl, HC'⟩
  · omega
  obtain ⟨d, cv, p1, p2⟩ := HC.out k hk
  obtain ⟨d', cv', p1', p2'⟩ := HC'.out k hk
  obtain rfl := Option.some.inj (p1.symm.trans p1')
  obtain ⟨a1, n1, c1, rfl⟩ := cards_form p2.cards
  obtain ⟨a2, n2, c2, rfl⟩ := cards_form p2'.cards
  exact ⟨b, o, c, b', o', c', d, a1, n1, c1, a2, n2, c2, rfl, rfl, p2.inR, seat_range p2, p2'.inR, seat_range p2', List.mem_of_getElem? p1, p2.cards, p2'.cards⟩

set_option linter.unusedSimpArgs false in
set_option maxRecDepth 100000 in
set_option maxHeartbeats 40000000 in
theorem sameState (zg zz : ZIn) (R R' : Nat → Prop) (w : World) (hR : ∀ k, R k → k < w.heap.size) (hR' : ∀ k, R' k → k < w.heap.size) (hd0 : zg.d = zz.d) (h1 : ZAt w R zg) (h2 : ZAt w R' zz) (ok : StateOk zz.d) :
    Calls Try.prog 19 #[.agg zg.cells.toArray, .agg zz.cells.toArray] w fun e w' => e = .returned (.bool true) ∧ Below w.heap.size w w' := by
  obtain ⟨d, gt, gk, gl, gg, gES, gEB, gL, gB, gTA, gS⟩ := zg
  obtain ⟨d', zt, zk, zl, zg', zES, zEB, zL, zB, zTA, zS⟩ := zz
  obtain rfl : d = d' := hd0
  have HK : Hid (∀ w', Below w.heap.size w w' → ZAt w' R ⟨d, gt, gk, gl, gg, gES, gEB, gL, gB, gTA, gS⟩ ∧ ZAt w' R' ⟨d, zt, zk, zl, zg', zES, zEB, zL, zB, zTA, zS⟩) := fun w' hb => ⟨h1.kept (Below.sameOf hb hR), h2.kept (Below.sameOf hb hR')⟩
  have HRR : Hid ((∀ k, R k → k < w.heap.size) ∧ (∀ k, R' k → k < w.heap.size)) := ⟨hR, hR'⟩
  have HOK := hd ok
  obtain ⟨eo, heo⟩ := opt_form h1.eseat
  obtain ⟨fo, hfo⟩ := opt_form h2.eseat
  obtain ⟨et, het⟩ := opt_form h1.toAct
  obtain ⟨ft, hft⟩ := opt_form h2.toAct
  obtain ⟨ea, en, ec, he1⟩ := cards_form h1.eboard
  obtain ⟨fa, fn, fc, hf1⟩ := cards_form h2.eboard
  obtain ⟨ba, bn, bc, he2⟩ := cards_form h1.board
  obtain ⟨ca, cn, cc, hf2⟩ := cards_form h2.board
  obtain ⟨sa, sn, sc, he3⟩ := seats_form h1.seats
  obtain ⟨ta, tn, tc, hf3⟩ := seats_form h2.seats
  simp only at heo hfo het hft he1 hf1 he2 hf2 he3 hf3
  subst heo hfo het hft he1 hf1 he2 hf2 he3 hf3
  clear h1 h2 hR hR' ok
  have HN := hd (range_new2 w (ZIn.cells ⟨d, gt, gk, gl, gg, .pointer eo, .slice ea en ec, gL, .slice ba bn bc, .pointer et, .slice sa sn sc⟩) (ZIn.cells ⟨d, zt, zk, zl, zg', .pointer fo, .slice fa fn fc, zL, .slice ca cn cc, .pointer ft, .slice ta tn tc⟩) 50)
  generalize hq1 : (ZIn.cells ⟨d, gt, gk, gl, gg, .pointer eo, .slice ea en ec, gL, .slice ba bn bc, .pointer et, .slice sa sn sc⟩).toArray = q1 at HN ⊢
  generalize hq2 : (ZIn.cells ⟨d, zt, zk, zl, zg', .pointer fo, .slice fa fn fc, zL, .slice ca cn cc, .pointer ft, .slice ta tn tc⟩).toArray = q2 at HN ⊢
  clear hq1 hq2
  have HBW : Hid (Below w.heap.size w ((w.alloc (.cells q1 50)).alloc (.cells q2 50)) ∧ ((w.alloc (.cells q1 50)).alloc (.cells q2 50)).heap.size = w.heap.size + 2) := ⟨((Below.refl _ _).alloc (Nat.le_refl _) _).alloc (by simp) _, by simp⟩
  go_enter Try.func19, Try.ntmps19
  go_upto_region 1 with fail
  generalize (w.alloc (.cells q1 50)).alloc (.cells q2 50) = W2 at HN HBW ⊢
  have f0 := HN.out.1 0 _ rfl
  have g0 := HN.out.2 0 _ rfl
  have f1 := HN.out.1 1 _ rfl
  have g1 := HN.out.2 1 _ rfl
  have f2 := HN.out.1 2 _ rfl
  have g2 := HN.out.2 2 _ rfl
  have f4 := HN.out.1 4 _ rfl
  have g4 := HN.out.2 4 _ rfl
  have f5 := HN.out.1 5 _ rfl
  have g5 := HN.out.2 5 _ rfl
  have f6 := HN.out.1 6 _ rfl
  have g6 := HN.out.2 6 _ rfl
  have f8 := HN.out.1 8 _ rfl
  have g8 := HN.out.2 8 _ rfl
  have f13 := HN.out.1 13 _ rfl
  have g13 := HN.out.2 13 _ rfl
  have f14 := HN.out.1 14 _ rfl
  have g14 := HN.out.2 14 _ rfl
  have f15 := HN.out.1 15 _ rfl
  have g15 := HN.out.2 15 _ rfl
  have f16 := HN.out.1 16 _ rfl
  have g16 := HN.out.2 16 _ rfl
  have f17 := HN.out.1 17 _ rfl
  have g17 := HN.out.2 17 _ rfl
  have f18 := HN.out.1 18 _ rfl
  have g18 := HN.out.2 18 _ rfl
  have f20 := HN.out.1 20 _ rfl
  have g20 := HN.out.2 20 _ rfl
  have f23 := HN.out.1 23 _ rfl
  have g23 := HN.out.2 23 _ rfl
  simp only [encS, Nat.zero_add] at f0 g0 f1 g1 f2 g2 f4 g4 f5 g5 f6 g6 f8 g8 f13 g13 f14 g14 f15 g15 f16 g16 f17 g17 f18 g18 f20 g20 f23 g23
  go_upto_if 108 with fail
  clear f0 g0 f1 g1 f2 g2 f4 g4 f5 g5 f6 g6 f8 g8 f13 g13 f14 g14 f15 g15 f16 g16 f17 g17 f18 g18 f20 g20 f23 g23
  have f3 := HN.out.1 3 _ rfl
  have g3 := HN.out.2 3 _ rfl
  have f7 := HN.out.1 7 _ rfl
  have g7 := HN.out.2 7 _ rfl
  have f19 := HN.out.1 19 _ rfl
  have g19 := HN.out.2 19 _ rfl
  have f21 := HN.out.1 21 _ rfl
  have g21 := HN.out.2 21 _ rfl
  have f22 := HN.out.1 22 _ rfl
  have g22 := HN.out.2 22 _ rfl
  simp only [Nat.zero_add] at f3 g3 f7 g7 f19 g19 f21 g21 f22 g22
  have HDN : Hid (∀ m, Below w.heap.size w (W2.drewN m)) := fun m => HBW.out.1.trans ⟨rfl, rfl, rfl, Nat.le_refl _, fun _ _ => rfl⟩
  have HCA : Hid (∀ m, Calls Try.prog 35 #[.pointer eo, .pointer fo] (W2.drewN m) fun e w' => e = .returned (.bool true) ∧ ∃ n, w' = (W2.drewN m).drewN n) := fun m => sameOpt _ _ d.eseat R R' _ (HK.out _ (HDN.out m)).1.eseat (HK.out _ (HDN.out m)).2.eseat
  have HPB : Hid (∀ m, Calls Try.prog 35 #[.pointer et, .pointer ft] (W2.drewN m) fun e w' => e = .returned (.bool true) ∧ ∃ n, w' = (W2.drewN m).drewN n) := fun m => sameOpt _ _ d.toAct R R' _ (HK.out _ (HDN.out m)).1.toAct (HK.out _ (HDN.out m)).2.toAct
  have HPC : Hid (∀ m, Calls Try.prog 36 #[.slice ea en ec, .slice fa fn fc] (W2.drewN m) fun e w' => e = .returned (.bool true) ∧ ∃ n, w' = (W2.drewN m).drewN n) := fun m => (sameU8 _ _ d.eboard d.eboard R R' _ (HK.out _ (HDN.out m)).1.eboard (HK.out _ (HDN.out m)).2.eboard HOK.out.eboard).mono fun e w' h => by rwa [show (d.eboard == d.eboard) = true by simp] at h
  have HPD : Hid (∀ m, Calls Try.prog 36 #[.slice ba bn bc, .slice ca cn cc] (W2.drewN m) fun e w' => e = .returned (.bool true) ∧ ∃ n, w' = (W2.drewN m).drewN n) := fun m => (sameU8 _ _ d.board d.board R R' _ (HK.out _ (HDN.out m)).1.board (HK.out _ (HDN.out m)).2.board HOK.out.board).mono fun e w' h => by rwa [show (d.board == d.board) = true by simp] at h
  go_upto_if 138 with (first
    | (go_at_call 36; refine (HCD.out _).mono ?_; rintro e w' ⟨rfl, m4, rfl⟩)
    | (go_at_call 36; refine (HCC.out _).mono ?_; rintro e w' ⟨rfl, m3, rfl⟩; have HCD := HPD)
    | (go_at_call 35; refine (HCB.out _).mono ?_; rintro e w' ⟨rfl, m2, rfl⟩; have HCC := HPC)
    | (go_at_call 35; refine (HCA.out 0).mono ?_; rintro e w' ⟨rfl, m1, rfl⟩; have HCB := HPB))
  clear f3 g3 f7 g7 f19 g19 f21 g21 HCA HPB HPC HPD
  have HB2 : Hid (∀ wr, Below (w.heap.size + 2) W2 wr → Below w.heap.size w wr) := fun wr hb => HBW.out.1.trans (hb.mono (by omega))
  have hS1 := (HK.out W2 HBW.out.1).1.seats
  have hS2 := (HK.out W2 HBW.out.1).2.seats
  simp only at hS1 hS2
  cases hse : d.seats with
  | none =>
    rw [hse] at hS1 hS2
    have hv1 : Value.slice sa sn sc = .slice none 0 0 := hS1
    have hv2 : Value.slice ta tn tc = .slice none 0 0 := hS2
    obtain ⟨rfl, rfl, rfl⟩ : sa = none ∧ sn = 0 ∧ sc = 0 := by injection hv1 with h1 h2 h3; exact ⟨h1, h2, h3⟩
    obtain ⟨rfl, rfl, rfl⟩ : ta = none ∧ tn = 0 ∧ tc = 0 := by injection hv2 with h1 h2 h3; exact ⟨h1, h2, h3⟩
    clear hS1 hS2 hv1 hv2
    go_wp2
    go_loop [5, 158] (fun _ i => i = .int .i64 0) (fun _ _ => 0)
    case atStart => rfl
    case round =>
      subst hrel
      go_wp2
      go_ret
      exact ⟨rfl, HDN.out _⟩
  | some ds =>
    rw [hse] at hS1 hS2
    obtain ⟨a1, cc1, hv1, _⟩ := hS1
    obtain ⟨a2, cc2, hv2, _⟩ := hS2
    obtain ⟨rfl, rfl, rfl⟩ : sa = some a1 ∧ sn = ds.length ∧ sc = cc1 := by injection hv1 with h1 h2 h3; exact ⟨h1, h2, h3⟩
    obtain ⟨rfl, rfl, rfl⟩ : ta = some a2 ∧ tn = ds.length ∧ tc = cc2 := by injection hv2 with h1 h2 h3; exact ⟨h1, h2, h3⟩
    have hll : ds.length ≤ 10923 := by have := HOK.out.seats.many; rw [hse] at this; exact this
    have HEA : Hid (∀ e ∈ ds, SeatOk e) := by have := HOK.out.seats.each; rw [hse] at this; exact this
    have HSE := hd hse
    have HF22 := hd f22
    have HG22 := hd g22
    clear hv1 hv2 hse
    go_wp2
    clear f22 g22
    go_loopw [5, 158] (fun _ i wr => ∃ k : Nat, k ≤ ds.length ∧ i = .int .i64 k ∧ Hid (Below (w.heap.size + 2) W2 wr)) (fun _ i _ => ds.length - (intOf i).toNat)
    case atStart => exact ⟨0, Nat.zero_le _, rfl, ⟨rfl, rfl, rfl, Nat.le_refl _, fun _ _ => rfl⟩⟩
    case round =>
      obtain ⟨k, hk, rfl, HBg⟩ := hrel
      by_cases hkl : k < ds.length
      · have hS1 : SeatsAt wr R (.slice (some a1) ds.length sc) (some ds) := by rw [← HSE.out]; exact (HK.out wr (HB2.out wr HBg.out)).1.seats
        have hS2 : SeatsAt wr R' (.slice (some a2) ds.length tc) (some ds) := by rw [← HSE.out]; exact (HK.out wr (HB2.out wr HBg.out)).2.seats
        obtain ⟨b1, o1, c1, b2, o2, c2, e, x1, y1, z1, x2, y2, z2, hv1, hv2, HR2⟩ := seats_both hS1 hS2 hkl
        obtain ⟨rfl, rfl⟩ : a1 = ⟨b1, o1, none⟩ ∧ c1 = sc := by injection hv1 with h1 h2 h3; injection h1 with h1; exact ⟨h1, h3.symm⟩
        obtain ⟨rfl, rfl⟩ : a2 = ⟨b2, o2, none⟩ ∧ c2 = tc := by injection hv2 with h1 h2 h3; injection h1 with h1; exact ⟨h1, h3.symm⟩
        have HWS : Hid (∀ i, (R i ∨ R' i) → i < wr.heap.size) := fun i hi => by
          have := (HB2.out wr HBg.out).size
          rcases hi with hi | hi
          · have := HRR.out.1 i hi; omega
          · have := HRR.out.2 i hi; omega
        have HS0 : Hid (Below wr.heap.size wr wr.drew) := (Below.refl _ _).drew
        have HUP : Hid (∀ w', Below wr.heap.size wr w' → Below (w.heap.size + 2) W2 w') := fun w' hb => HBg.out.trans (hb.mono (by have := HBg.out.size; have := HBW.out.2; omega))
        have HA : Hid (∀ w', Below wr.heap.size wr w' → w'.cell? ⟨w.heap.size, 22, none⟩ = some (.slice (some ⟨b1, o1, none⟩) ds.length c1)) := fun w' hb => ((HUP.out w' hb).cell (p := ⟨w.heap.size, 22, none⟩) (by show w.heap.size < w.heap.size + 2; omega)).trans HF22.out
        have HB : Hid (∀ w', Below wr.heap.size wr w' → w'.cell? ⟨w.heap.size + 1, 22, none⟩ = some (.slice (some ⟨b2, o2, none⟩) ds.length c2)) := fun w' hb => ((HUP.out w' hb).cell (p := ⟨w.heap.size + 1, 22, none⟩) (by show w.heap.size + 1 < w.heap.size + 2; omega)).trans HG22.out
        have HL1 : Hid (∀ w', Below wr.heap.size wr w' → w'.rangeAt b1 (o1 + k * 8) (seatCells e (.slice x1 y1 z1))) := fun w' hb => range_below hb (HWS.out b1 (.inl HR2.out.1)) HR2.out.2.1
        have HL2 : Hid (∀ w', Below wr.heap.size wr w' → w'.rangeAt b2 (o2 + k * 8) (seatCells e (.slice x2 y2 z2))) := fun w' hb => range_below hb (HWS.out b2 (.inr HR2.out.2.2.1)) HR2.out.2.2.2.1
        have HSS := hd (sameSeat37 R R' e e (.slice x1 y1 z1) (.slice x2 y2 z2) wr.drew (fun i hi => HWS.out i (.inl hi)) (fun i hi => HWS.out i (.inr hi)) (HR2.out.2.2.2.2.2.1.kept (Same.drew _ _)) (HR2.out.2.2.2.2.2.2.kept (Same.drew _ _)) (HEA.out e HR2.out.2.2.2.2.1).cards)
        rw [same_self] at HSS
        clear hS1 hS2 hv1 hv2
        go_wp2_with fail
        refine wp_region_Z (fun w' => Below wr.heap.size wr w') 11 (by kernel_rfl) ?_
        show wpZ _ _ _ _ _ 12 (Array.replicate 12 false) _ _
        refine wpZ_take (i := 0) (v := .pointer (some ⟨w.heap.size, 22, none⟩)) [10, 4, 3, 1] rfl (by kernel_rfl) (by kernel_rfl) (by kernel_rfl) (by kernel_rfl) (fun _ _ _ h => h) (.inl ⟨rfl, fun w' hS => ?_⟩) HS0.out ?_
        · go_simp
        try simp only [Act.put, List.getElem_toArray, List.getElem_cons_succ, List.getElem_cons_zero, List.setIfInBounds_toArray, List.set_cons_zero, List.set_cons_succ]
        refine wpZ_take (i := 1) (v := .slice (some ⟨b1, o1, none⟩) ds.length c1) [10, 4, 3] rfl (by kernel_rfl) (by kernel_rfl) (by kernel_rfl) (by kernel_rfl) (fun _ _ _ h => h) (.inl ⟨rfl, fun w' hS => ?_⟩) HS0.out ?_
        · have kk := HA.out _ hS
          go_simp
        try simp only [Act.put, List.getElem_toArray, List.getElem_cons_succ, List.getElem_cons_zero, List.setIfInBounds_toArray, List.set_cons_zero, List.set_cons_succ]
        refine wpZ_take (i := 2) (v := .int .i64 k) [10, 4, 3] rfl (by kernel_rfl) (by kernel_rfl) (by kernel_rfl) (by kernel_rfl) (fun _ _ _ h => h) (.inl ⟨rfl, fun w' hS => ?_⟩) HS0.out ?_
        · go_simp
        try simp only [Act.put, List.getElem_toArray, List.getElem_cons_succ, List.getElem_cons_zero, List.setIfInBounds_toArray, List.set_cons_zero, List.set_cons_succ]
        refine wpZ_take (i := 3) (v := .pointer (some ⟨b1, o1 + k * 8, none⟩)) [10, 4] rfl (by kernel_rfl) (by kernel_rfl) (by kernel_rfl) (by kernel_rfl) (fun _ _ _ h => h) (.inl ⟨rfl, fun w' hS => ?_⟩) HS0.out ?_
        · go_simp
        try simp only [Act.put, List.getElem_toArray, List.getElem_cons_succ, List.getElem_cons_zero, List.setIfInBounds_toArray, List.set_cons_zero, List.set_cons_succ]
        refine wpZ_take (i := 4) (v := .agg (seatCells e (.slice x1 y1 z1)).toArray) [10] rfl (by kernel_rfl) (by kernel_rfl) (by kernel_rfl) (by kernel_rfl) (fun _ _ _ h => h) (yieldsIf_load_mid rfl 69 _ rfl b1 (o1 + k * 8) rfl (seatCells e (.slice x1 y1 z1)) _ (fun w' hS => HL1.out w' hS) Try.underlying69 rfl Try.siz69) HS0.out ?_
        try simp only [Act.put, List.getElem_toArray, List.getElem_cons_succ, List.getElem_cons_zero, List.setIfInBounds_toArray, List.set_cons_zero, List.set_cons_succ]
        refine wpZ_take (i := 5) (v := .pointer (some ⟨w.heap.size + 1, 22, none⟩)) [10, 9, 8, 6] rfl (by kernel_rfl) (by kernel_rfl) (by kernel_rfl) (by kernel_rfl) (fun _ _ _ h => h) (.inl ⟨rfl, fun w' hS => ?_⟩) HS0.out ?_
        · go_simp
        try simp only [Act.put, List.getElem_toArray, List.getElem_cons_succ, List.getElem_cons_zero, List.setIfInBounds_toArray, List.set_cons_zero, List.set_cons_succ]
        refine wpZ_take (i := 6) (v := .slice (some ⟨b2, o2, none⟩) ds.length c2) [10, 9, 8] rfl (by kernel_rfl) (by kernel_rfl) (by kernel_rfl) (by kernel_rfl) (fun _ _ _ h => h) (.inl ⟨rfl, fun w' hS => ?_⟩) HS0.out ?_
        · have kk := HB.out _ hS
          go_simp
        try simp only [Act.put, List.getElem_toArray, List.getElem_cons_succ, List.getElem_cons_zero, List.setIfInBounds_toArray, List.set_cons_zero, List.set_cons_succ]
        refine wpZ_take (i := 7) (v := .int .i64 k) [10, 9, 8] rfl (by kernel_rfl) (by kernel_rfl) (by kernel_rfl) (by kernel_rfl) (fun _ _ _ h => h) (.inl ⟨rfl, fun w' hS => ?_⟩) HS0.out ?_
        · go_simp
        try simp only [Act.put, List.getElem_toArray, List.getElem_cons_succ, List.getElem_cons_zero, List.setIfInBounds_toArray, List.set_cons_zero, List.set_cons_succ]
        refine wpZ_take (i := 8) (v := .pointer (some ⟨b2, o2 + k * 8, none⟩)) [10, 9] rfl (by kernel_rfl) (by kernel_rfl) (by kernel_rfl) (by kernel_rfl) (fun _ _ _ h => h) (.inl ⟨rfl, fun w' hS => ?_⟩) HS0.out ?_
        · go_simp
        try simp only [Act.put, List.getElem_toArray, List.getElem_cons_succ, List.getElem_cons_zero, List.setIfInBounds_toArray, List.set_cons_zero, List.set_cons_succ]
        refine wpZ_take (i := 9) (v := .agg (seatCells e (.slice x2 y2 z2)).toArray) [10] rfl (by kernel_rfl) (by kernel_rfl) (by kernel_rfl) (by kernel_rfl) (fun _ _ _ h => h) (yieldsIf_load_mid rfl 69 _ rfl b2 (o2 + k * 8) rfl (seatCells e (.slice x2 y2 z2)) _ (fun w' hS => HL2.out w' hS) Try.underlying69 rfl Try.siz69) HS0.out ?_
        try simp only [Act.put, List.getElem_toArray, List.getElem_cons_succ, List.getElem_cons_zero, List.setIfInBounds_toArray, List.set_cons_zero, List.set_cons_succ]
        refine wpZ_one (i := 10) (by kernel_rfl) (wpOp_want rfl rfl ?_)
        go_simp
        go_at_call 37
        refine HSS.out.mono ?_
        rintro e' Wf ⟨rfl, hb5⟩
        have HBf : Hid (Below wr.heap.size wr Wf) := HS0.out.trans (hb5.mono HS0.out.size)
        clear hb5
        refine ⟨HBf.out, ?_⟩
        try simp only [Act.put, List.getElem_toArray, List.getElem_cons_succ, List.getElem_cons_zero, List.setIfInBounds_toArray, List.set_cons_zero, List.set_cons_succ]
        refine wpZ_one (i := 11) (by kernel_rfl) (wpOp_want rfl rfl ?_)
        go_simp
        refine wpZ_done (by kernel_rfl) ?_
        try simp only [Act.put, List.getElem_toArray, List.getElem_cons_succ, List.getElem_cons_zero, List.setIfInBounds_toArray, List.set_cons_zero, List.set_cons_succ]
        have HE := hd (HUP.out Wf HBf.out)
        clear HSS HL1 HL2 HA HB
        go_wp2
        go_roundw
        case rel => exact ⟨k + 1, by omega, by go_num, HE⟩
        case measure => simp [intOf]; omega
      · obtain rfl : k = ds.length := by omega
        go_wp2
        go_ret
        exact ⟨rfl, HB2.out wr HBg.out⟩
end Go.Proofs.Qxb6618929a
