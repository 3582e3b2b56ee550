/-
  zzStatesBytes: at most 1048576 only where every length is small.
-/
import Derived.Test.Qxb6618929aSmall
import Derived.Test.Qxb6618929aBuild4
namespace Go.Proofs.Qxb6618929a
open Go Go.RowKit

/-- No length is longer than Go lets one be. -/
structure ZLen (z : ZIn) : Prop where
  type : z.d.type.length ≤ 9223372036854775807
  kind : z.d.kind.length ≤ 9223372036854775807
  action : z.d.action.length ≤ 9223372036854775807
  street : z.d.street.length ≤ 9223372036854775807
  eboard : (z.d.eboard.getD []).length ≤ 9223372036854775807
  token : z.token.length ≤ 9223372036854775807
  tstreet : z.d.tstreet.length ≤ 9223372036854775807
  board : (z.d.board.getD []).length ≤ 9223372036854775807
  legal : (z.legal.getD []).length ≤ 9223372036854775807
  moves : ∀ l ∈ z.legal.getD [], l.action.length ≤ 9223372036854775807
  seats : (z.d.seats.getD []).length ≤ 9223372036854775807
  names : ∀ d ∈ z.d.seats.getD [], d.name.length ≤ 9223372036854775807 ∧ (d.cards.getD []).length ≤ 9223372036854775807

structure ZSmall (z : ZIn) : Prop where
  type : z.d.type.length ≤ 1048576
  kind : z.d.kind.length ≤ 1048576
  action : z.d.action.length ≤ 1048576
  street : z.d.street.length ≤ 1048576
  eboard : (z.d.eboard.getD []).length ≤ 1048576
  tstreet : z.d.tstreet.length ≤ 1048576
  board : (z.d.board.getD []).length ≤ 1048576
  legal : (z.legal.getD []).length ≤ 1048576
  seats : (z.d.seats.getD []).length * 96 ≤ 1048576
  names : ∀ d ∈ z.d.seats.getD [], d.name.length ≤ 1048576 ∧ (d.cards.getD []).length ≤ 1048576

theorem LegalAt.row {w : World} {R : Nat → Prop} {v : Value} {o : Option (List LegalD)} (h : LegalAt w R v o) :
    ∃ (ao : Option Addr) (cap : Nat), v = .slice ao (o.getD []).length cap ∧ ((o.getD []).length ≤ 0 ∨ (0 < (o.getD []).length ∧ ∃ b off, ao = some ⟨b, off, none⟩ ∧ Hid (∀ i, i < (o.getD []).length → ∃ l, (o.getD [])[i]? = some l ∧ w.rangeAt b (off + i * 4) l.cells))) := by
  cases o with
  | none => exact ⟨none, 0, h, .inl (Nat.le_refl _)⟩
  | some ls =>
    obtain ⟨a, cap, h1, h2⟩ := h
    refine ⟨some a, cap, h1, ?_⟩
    rcases h2 with h2 | ⟨h3, b, off, h4, _, h5⟩
    · exact .inl h2
    · exact .inr ⟨h3, b, off, by rw [h4], h5⟩

/-- It answers a bool. -/
def SaysBool (e : Ending) : Prop := ∃ r : Bool, e = .returned (.bool r)

set_option maxRecDepth 100000 in
set_option maxHeartbeats 8000000 in
theorem statesBytes (vb v : Value) (bs : Option (List UInt8)) (zs : List ZIn) (R R' : Nat → Prop) (w : World) (hb : CardsAt w R' vb bs) (hbl : (bs.getD []).length ≤ 9223372036854775807) (h : ZsAt w R v zs) (hzl : zs.length ≤ 9223372036854775807) (hok : ∀ z ∈ zs, ZLen z) :
    Calls Try.prog 14 #[vb, v] w fun e w' => (∃ r : Int, e = .returned (.int .i64 r) ∧ 0 ≤ r ∧ r ≤ 1048577 ∧ Hid (r ≤ 1048576 → (bs.getD []).length ≤ 1048576 ∧ zs.length * 256 ≤ 1048576 ∧ ∀ z ∈ zs, ZSmall z)) ∧ w' = w := by
  obtain ⟨bo, bc, rfl, _⟩ := hb.row
  obtain ⟨ao, cap, rfl, h2⟩ := h
  have HOK := hd hok
  have HA := hd (fun (_ : (0 : Int) ≤ 1048576) => trivial)
  clear hb hok
  rcases h2 with h0 | ⟨h0, b, off, rfl, hRb, HC⟩
  all_goals
    go_enter Try.func14, Try.ntmps14
    go_wp2_with (go_at_call 22; refine (grow22 _ _ _ w (by omega) (by omega) (by omega) (by omega) (by omega)).mono ?_; rintro e w' ⟨⟨r, rfl, hg⟩, hw⟩; obtain rfl := hw.symm; have hr0 := hg.out.1; have hr1 := hg.out.2.1; have HA := hd (fun (h : r ≤ 1048576) => And.intro (hg.out.2.2 h) (HA.out (hg.out.2.2 h).1)); clear hg)
    have HB : Hid (r ≤ 1048576 → (bs.getD []).length ≤ 1048576 ∧ zs.length * 256 ≤ 1048576) := fun h => by
      have := HA.out h
      omega
    clear HA
    go_loop [5, 6, 7, 8, 9, 19] (fun n _ _ _ _ i => ∃ (k : Nat) (x : Int), k ≤ zs.length ∧ i = .int .i64 k ∧ n = .int .i64 x ∧ 0 ≤ x ∧ x ≤ 1048577 ∧ Hid (x ≤ 1048576 → ((bs.getD []).length ≤ 1048576 ∧ zs.length * 256 ≤ 1048576) ∧ ∀ j, j < k → ∃ z, zs[j]? = some z ∧ ZSmall z)) (fun _ _ _ _ _ i => zs.length - (intOf i).toNat)
    case atStart => exact ⟨0, _, Nat.zero_le _, rfl, rfl, hr0, hr1, fun h => ⟨HB.out h, fun j hj => by omega⟩⟩
    case round =>
      obtain ⟨k, x, hk, rfl, rfl, hx0, hx1, HX⟩ := hrel
      clear HB hr0 hr1
      by_cases hlt : k < zs.length
      · try (exfalso; omega)
        all_goals
          by_cases hx : 1048576 < x
          · go_wp2
            go_ret
            exact ⟨⟨x, rfl, hx0, hx1, fun h => by omega⟩, rfl⟩
          have d1 : decide ((1048576 : Int) < x) = false := by simp; omega
          obtain ⟨z, hzk, hrg, hza⟩ := HC.out k hlt
          have hzl := HOK.out z (List.mem_of_getElem? hzk)
          obtain ⟨eo, ec, hve, _⟩ := hza.eboard.row
          obtain ⟨bo2, bc2, hvb, _⟩ := hza.board.row
          obtain ⟨lo, lc, hvl, hlk⟩ := hza.legal.row
          obtain ⟨so, sc, hvs, hsk⟩ := hza.seats.before
          have f0 := hrg 0 _ rfl
          have f2 := hrg 2 _ rfl
          have f4 := hrg 4 _ rfl
          have f6 := hrg 6 _ rfl
          have f7 := hrg 7 _ rfl
          have f10 := hrg 10 _ rfl
          have f12 := hrg 12 _ rfl
          have f17 := hrg 17 _ rfl
          have f19 := hrg 19 _ rfl
          have f22 := hrg 22 _ rfl
          rw [hve] at f7
          rw [hvl] at f12
          rw [hvb] at f19
          rw [hvs] at f22
          simp only [encS, Nat.add_zero] at f0 f2 f4 f6 f10 f17
          have l0 := hzl.type
          have l2 := hzl.kind
          have l4 := hzl.action
          have l6 := hzl.street
          have l7 := hzl.eboard
          have l10 := hzl.token
          have l12 := hzl.legal
          have l17 := hzl.tstreet
          have l19 := hzl.board
          have l22 := hzl.seats
          have HM := hd hzl.moves
          have HNM := hd hzl.names
          have HZK := hd hzk
          have HLK := hd hlk
          have HSK := hd hsk
          have HA := hd (fun (h : x ≤ 1048576) => HX.out h)
          clear hzl hzk hlk hsk hza hrg hve hvb hvl hvs
          go_wp2_with (go_at_call 22; refine (grow22 _ _ _ w (by omega) (by omega) (by omega) (by omega) (by omega)).mono ?_; rintro e w' ⟨⟨r, rfl, hg⟩, hw⟩; obtain rfl := hw.symm; have hr0 := hg.out.1; have hr1 := hg.out.2.1; have HA := hd (fun (h : r ≤ 1048576) => And.intro (hg.out.2.2 h) (HA.out (hg.out.2.2 h).1)); clear hg)
          have HS : Hid (r ≤ 1048576 → (((bs.getD []).length ≤ 1048576 ∧ zs.length * 256 ≤ 1048576) ∧ ∀ j, j < k → ∃ z, zs[j]? = some z ∧ ZSmall z) ∧ z.d.type.length ≤ 1048576 ∧ z.d.kind.length ≤ 1048576 ∧ z.d.action.length ≤ 1048576 ∧ z.d.street.length ≤ 1048576 ∧ (z.d.eboard.getD []).length ≤ 1048576 ∧ z.d.tstreet.length ≤ 1048576 ∧ (z.d.board.getD []).length ≤ 1048576 ∧ (z.legal.getD []).length ≤ 1048576) := fun h => by
            obtain ⟨q1, q2, q3, q4, q5, q6, q7, q8, q9, base⟩ := HA.out h
            exact ⟨base, by omega, by omega, by omega, by omega, by omega, by omega, by omega, by omega⟩
          clear HA HX
          rcases HLK.out with hl0 | ⟨hl0, lb, loff, rfl, HLC⟩
          all_goals
            go_loop [5, 8, 96] (fun n _ i => ∃ (j : Nat) (y : Int), j ≤ (z.legal.getD []).length ∧ i = .int .i64 j ∧ n = .int .i64 y ∧ 0 ≤ y ∧ y ≤ 1048577 ∧ Hid (y ≤ 1048576 → r ≤ 1048576)) (fun _ _ i => (z.legal.getD []).length - (intOf i).toNat)
            case atStart => exact ⟨0, _, Nat.zero_le _, rfl, rfl, hr0, hr1, fun h => h⟩
            case round =>
              obtain ⟨j, y, hj, rfl, rfl, hy0, hy1, HY⟩ := hrel
              by_cases hjl : j < (z.legal.getD []).length
              · try (exfalso; omega)
                all_goals
                  by_cases hyx : 1048576 < y
                  · go_wp2
                    go_ret
                    exact ⟨⟨y, rfl, hy0, hy1, fun h => by omega⟩, rfl⟩
                  have d2 : decide ((1048576 : Int) < y) = false := by simp; omega
                  obtain ⟨l, hlj, hlr⟩ := HLC.out j hjl
                  have e0 := hlr 0 _ rfl
                  simp only [encS, Nat.add_zero] at e0
                  have hla := HM.out l (List.mem_of_getElem? hlj)
                  have HQ := hd (fun (h : y ≤ 1048576) => HY.out h)
                  clear hlr hlj
                  go_wp2_with (go_at_call 22; refine (grow22 _ _ _ w (by omega) (by omega) (by omega) (by omega) (by omega)).mono ?_; rintro e w' ⟨⟨q, rfl, hg⟩, hw⟩; obtain rfl := hw.symm; have hq0 := hg.out.1; have hq1 := hg.out.2.1; have HQ := hd (fun (h : q ≤ 1048576) => And.intro (hg.out.2.2 h) (HQ.out (hg.out.2.2 h).1)); clear hg)
                  go_round
                  case rel => exact ⟨j + 1, _, by omega, by go_num, rfl, hq0, hq1, fun h => (HQ.out h).2⟩
                  case measure => simp [intOf]; omega
              · have HA := hd (fun (h : y ≤ 1048576) => HS.out (HY.out h))
                have d2 : decide ((j : Int) < ((z.legal.getD []).length : Int)) = false := by simp; omega
                clear HS HLK HM
                try clear HLC
                go_wp2_with (go_at_call 22; refine (grow22 _ _ _ w (by omega) (by omega) (by omega) (by omega) (by omega)).mono ?_; rintro e w' ⟨⟨r, rfl, hg⟩, hw⟩; obtain rfl := hw.symm; have hr0 := hg.out.1; have hr1 := hg.out.2.1; have HA := hd (fun (h : r ≤ 1048576) => And.intro (hg.out.2.2 h) (HA.out (hg.out.2.2 h).1)); clear hg)
                rcases HSK.out with hs0 | ⟨hs0, sb, soff, rfl, HSC⟩
                all_goals
                  go_loop [5, 9, 126] (fun n _ i => ∃ (j : Nat) (y : Int), j ≤ (z.d.seats.getD []).length ∧ i = .int .i64 j ∧ n = .int .i64 y ∧ 0 ≤ y ∧ y ≤ 1048577 ∧ Hid (y ≤ 1048576 → r ≤ 1048576 ∧ ∀ i, i < j → ∃ d, (z.d.seats.getD [])[i]? = some d ∧ d.name.length ≤ 1048576 ∧ (d.cards.getD []).length ≤ 1048576)) (fun _ _ i => (z.d.seats.getD []).length - (intOf i).toNat)
                  case atStart => exact ⟨0, _, Nat.zero_le _, rfl, rfl, hr0, hr1, fun h => ⟨h, fun i hi => by omega⟩⟩
                  case round =>
                    obtain ⟨j2, y2, hj2, rfl, rfl, hv0, hv1, HV⟩ := hrel
                    by_cases hjs : j2 < (z.d.seats.getD []).length
                    · try (exfalso; omega)
                      all_goals
                        by_cases hyx : 1048576 < y2
                        · go_wp2
                          go_ret
                          exact ⟨⟨y2, rfl, hv0, hv1, fun h => by omega⟩, rfl⟩
                        have d3 : decide ((1048576 : Int) < y2) = false := by simp; omega
                        obtain ⟨d, cv, hdj, hseat⟩ := HSC.out j2 hjs
                        obtain ⟨co, cc, hcv, _⟩ := hseat.cards.row
                        have e1 := hseat.c1
                        have e6 := hseat.c6
                        rw [hcv] at e6
                        simp only [encS] at e1
                        obtain ⟨hln, hlc⟩ := HNM.out d (List.mem_of_getElem? hdj)
                        have HQ := hd (fun (h : y2 ≤ 1048576) => HV.out h)
                        have HDJ := hd hdj
                        clear hseat hdj hcv
                        go_wp2_with (go_at_call 22; refine (grow22 _ _ _ w (by omega) (by omega) (by omega) (by omega) (by omega)).mono ?_; rintro e w' ⟨⟨q, rfl, hg⟩, hw⟩; obtain rfl := hw.symm; have hq0 := hg.out.1; have hq1 := hg.out.2.1; have HQ := hd (fun (h : q ≤ 1048576) => And.intro (hg.out.2.2 h) (HQ.out (hg.out.2.2 h).1)); clear hg)
                        go_round
                        case rel =>
                          refine ⟨j2 + 1, _, by omega, by go_num, rfl, hq0, hq1, fun h => ?_⟩
                          obtain ⟨g1, g2, g3, g4⟩ := HQ.out h
                          refine ⟨g3, fun i hi => ?_⟩
                          by_cases e : i = j2
                          · subst e
                            exact ⟨d, HDJ.out, by omega, by omega⟩
                          · exact g4 i (by omega)
                        case measure => simp [intOf]; omega
                    · have HFIN : Hid (y2 ≤ 1048576 → (((bs.getD []).length ≤ 1048576 ∧ zs.length * 256 ≤ 1048576) ∧ ∀ j, j < k + 1 → ∃ z, zs[j]? = some z ∧ ZSmall z)) := fun h => by
                        obtain ⟨g1, g2⟩ := HV.out h
                        obtain ⟨q1, ⟨base, hall⟩, m0, m2, m4, m6, m7, m17, m19, m12⟩ := HA.out g1
                        refine ⟨base, fun j hj => ?_⟩
                        by_cases e : j = k
                        · subst e
                          refine ⟨z, HZK.out, m0, m2, m4, m6, m7, m17, m19, m12, by omega, fun d hd => ?_⟩
                          obtain ⟨i, hi, rfl⟩ := List.getElem_of_mem hd
                          obtain ⟨d', p1, p2⟩ := g2 i (by omega)
                          rw [List.getElem?_eq_getElem hi] at p1
                          rw [Option.some.inj p1]
                          exact p2
                        · exact hall j (by omega)
                      have d3 : decide ((j2 : Int) < ((z.d.seats.getD []).length : Int)) = false := by simp; omega
                      clear HV HA HSK HNM
                      try clear HSC
                      go_wp2
                      go_round
                      case rel => exact ⟨k + 1, y2, by omega, by go_num, rfl, hv0, hv1, HFIN⟩
                      case measure => simp [intOf]; omega
      · have HFIN : Hid (x ≤ 1048576 → (bs.getD []).length ≤ 1048576 ∧ zs.length * 256 ≤ 1048576 ∧ ∀ z ∈ zs, ZSmall z) := fun h => by
          obtain ⟨⟨g1, g2⟩, g3⟩ := HX.out h
          refine ⟨g1, g2, fun z hz => ?_⟩
          obtain ⟨i, hi, rfl⟩ := List.getElem_of_mem hz
          obtain ⟨z', p1, p2⟩ := g3 i (by omega)
          rw [List.getElem?_eq_getElem hi] at p1
          rw [Option.some.inj p1]
          exact p2
        have d3 : decide ((k : Int) < (zs.length : Int)) = false := by simp; omega
        go_wp2
        go_ret
        exact ⟨⟨x, rfl, hx0, hx1, HFIN⟩, rfl⟩
end Go.Proofs.Qxb6618929a
