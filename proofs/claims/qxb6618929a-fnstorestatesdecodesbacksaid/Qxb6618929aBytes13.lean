/-
  zzBytes13: it answers.
-/
import Derived.Test.Qxb6618929aBytes
import Derived.Deep.CutBlock
import Derived.Deep.CutRange
namespace Go.Proofs.Qxb6618929a
open Go Go.RowKit

set_option maxRecDepth 100000 in
set_option maxHeartbeats 20000000 in
theorem zzBytes13 (vb v : Value) (bs : Option (List UInt8)) (zs : List ZIn) (R R' : Nat → Prop) (w : World) (hb : CardsAt w R' vb bs) (hbl : (bs.getD []).length ≤ 9223372036854775807) (h : ZsAt w R v zs) (hzl : zs.length ≤ 9223372036854775807) (hok : ∀ z ∈ zs, ZLen z) :
    Calls Try.prog 13 #[vb, v] w fun e w' => SaysBool e ∧ w' = w := by
  obtain ⟨bo, bc, rfl, _⟩ := hb.row
  obtain ⟨ao, cap, rfl, h2⟩ := h
  have HOK := hd hok
  clear hb hok
  by_cases hA0 : (bs.getD []).length + zs.length ≤ 1048576
  rotate_left
  · clear h2
    have hA2 : 1048576 < ((bs.getD []).length : Int) + (zs.length : Int) := by omega
    go_enter Try.func13, Try.ntmps13
    go_wp2
    all_goals
      go_ret
      exact ⟨⟨_, rfl⟩, rfl⟩
  have da : decide ((1048576 : Int) < (((bs.getD []).length : Nat) : Int)) = false := by simp; omega
  have db : decide ((1048576 : Int) < ((zs.length : Nat) : Int)) = false := by simp; omega
  have dc : decide ((1048576 : Int) < (((bs.getD []).length : Nat) : Int) + ((zs.length : Nat) : Int)) = false := by simp; omega
  have H2 : Hid (∀ k, k < zs.length → ∃ b off, ao = some ⟨b, off, none⟩ ∧ ∃ z, zs[k]? = some z ∧ w.rangeAt b (off + k * 24) z.cells ∧ ZAt w R z) := fun k hk => by
    rcases h2 with h0 | ⟨h0, b, off, he, hRb, HC⟩
    · omega
    · exact ⟨b, off, he, HC.out k hk⟩
  clear h2
  go_enter Try.func13, Try.ntmps13
  go_wp2
  go_loop [5, 6, 7, 8] (fun t i _ _ => ∃ (k : Nat) (x : Int), k ≤ zs.length ∧ i = .int .i64 k ∧ t = .int .i64 x ∧ 0 ≤ x ∧ x ≤ 1048576) (fun _ i _ _ => zs.length - (intOf i).toNat)
  case atStart => exact ⟨0, _, Nat.zero_le _, rfl, rfl, by omega, by omega⟩
  case round => as_aux_lemma =>
    obtain ⟨k, x, hk, rfl, rfl, hx0, hx1⟩ := hrel
    by_cases hlt : k < zs.length
    · obtain ⟨b, off, rfl, z, hzk, hrg, hza⟩ := H2.out k hlt
      have hzl := HOK.out z (List.mem_of_getElem? hzk)
      obtain ⟨eo, ec, hve, _⟩ := hza.eboard.row
      obtain ⟨bo2, bc2, hvb, _⟩ := hza.board.row
      obtain ⟨lo, lc, hvl, hlk⟩ := hza.legal.row
      obtain ⟨so, sc, hvs, hsk⟩ := hza.seats.before
      have f0 := hrg 0 _ rfl
      have f2 := hrg 2 _ rfl
      have f4 := hrg 4 _ rfl
      have f6 := hrg 6 _ rfl
      have f7 := hrg 7 _ rfl
      have f10 := hrg 10 _ rfl
      have f12 := hrg 12 _ rfl
      have f17 := hrg 17 _ rfl
      have f19 := hrg 19 _ rfl
      have f22 := hrg 22 _ rfl
      rw [hve] at f7
      rw [hvl] at f12
      rw [hvb] at f19
      rw [hvs] at f22
      simp only [encS, Nat.add_zero] at f0 f2 f4 f6 f10 f17
      have l0 := hzl.type
      have l2 := hzl.kind
      have l4 := hzl.action
      have l6 := hzl.street
      have l7 := hzl.eboard
      have l10 := hzl.token
      have l12 := hzl.legal
      have l17 := hzl.tstreet
      have l19 := hzl.board
      have l22 := hzl.seats
      have HM := hd hzl.moves
      have HNM := hd hzl.names
      have HLK := hd hlk
      have HSK := hd hsk
      clear hzl hzk hlk hsk hza hrg hve hvb hvl hvs
      by_cases hA : x + ((z.d.type.length : Nat) : Int) + ((z.d.kind.length : Nat) : Int) + ((z.d.action.length : Nat) : Int) + ((z.d.street.length : Nat) : Int) + (((z.d.eboard.getD []).length : Nat) : Int) + ((z.token.length : Nat) : Int) + (((z.legal.getD []).length : Nat) : Int) ≤ 1048576
      rotate_left
      · have hA2 : 1048576 < x + ((z.d.type.length : Nat) : Int) + ((z.d.kind.length : Nat) : Int) + ((z.d.action.length : Nat) : Int) + ((z.d.street.length : Nat) : Int) + (((z.d.eboard.getD []).length : Nat) : Int) + ((z.token.length : Nat) : Int) + (((z.legal.getD []).length : Nat) : Int) := by omega
        go_wp2
        all_goals
          go_ret
          exact ⟨⟨_, rfl⟩, rfl⟩
      · skip
        have pa0 : decide ((1048576 : Int) < ((z.d.type.length : Nat) : Int)) = false := by simp; omega
        have pb0 : decide ((1048576 : Int) < x + ((z.d.type.length : Nat) : Int)) = false := by simp; omega
        have pa1 : decide ((1048576 : Int) < ((z.d.kind.length : Nat) : Int)) = false := by simp; omega
        have pb1 : decide ((1048576 : Int) < x + ((z.d.type.length : Nat) : Int) + ((z.d.kind.length : Nat) : Int)) = false := by simp; omega
        have pa2 : decide ((1048576 : Int) < ((z.d.action.length : Nat) : Int)) = false := by simp; omega
        have pb2 : decide ((1048576 : Int) < x + ((z.d.type.length : Nat) : Int) + ((z.d.kind.length : Nat) : Int) + ((z.d.action.length : Nat) : Int)) = false := by simp; omega
        have pa3 : decide ((1048576 : Int) < ((z.d.street.length : Nat) : Int)) = false := by simp; omega
        have pb3 : decide ((1048576 : Int) < x + ((z.d.type.length : Nat) : Int) + ((z.d.kind.length : Nat) : Int) + ((z.d.action.length : Nat) : Int) + ((z.d.street.length : Nat) : Int)) = false := by simp; omega
        have pa4 : decide ((1048576 : Int) < (((z.d.eboard.getD []).length : Nat) : Int)) = false := by simp; omega
        have pb4 : decide ((1048576 : Int) < x + ((z.d.type.length : Nat) : Int) + ((z.d.kind.length : Nat) : Int) + ((z.d.action.length : Nat) : Int) + ((z.d.street.length : Nat) : Int) + (((z.d.eboard.getD []).length : Nat) : Int)) = false := by simp; omega
        have pa5 : decide ((1048576 : Int) < ((z.token.length : Nat) : Int)) = false := by simp; omega
        have pb5 : decide ((1048576 : Int) < x + ((z.d.type.length : Nat) : Int) + ((z.d.kind.length : Nat) : Int) + ((z.d.action.length : Nat) : Int) + ((z.d.street.length : Nat) : Int) + (((z.d.eboard.getD []).length : Nat) : Int) + ((z.token.length : Nat) : Int)) = false := by simp; omega
        have pa6 : decide ((1048576 : Int) < (((z.legal.getD []).length : Nat) : Int)) = false := by simp; omega
        have pb6 : decide ((1048576 : Int) < x + ((z.d.type.length : Nat) : Int) + ((z.d.kind.length : Nat) : Int) + ((z.d.action.length : Nat) : Int) + ((z.d.street.length : Nat) : Int) + (((z.d.eboard.getD []).length : Nat) : Int) + ((z.token.length : Nat) : Int) + (((z.legal.getD []).length : Nat) : Int)) = false := by simp; omega
        go_upto_block 2 with fail
        go_cut [5, 7] from 27 to 297 (fun t _ wc => (∃ y : Int, t = .int .i64 y ∧ 0 ≤ y ∧ y ≤ 1048576) ∧ wc = w)
        case first => as_aux_lemma =>
          rcases HLK.out with hl0 | ⟨hl0, lb, loff, rfl, HLC⟩
          all_goals
            go_wp2_with fail
            go_loop [5, 7] (fun t i => ∃ (j : Nat) (y : Int), j ≤ (z.legal.getD []).length ∧ i = .int .i64 j ∧ t = .int .i64 y ∧ 0 ≤ y ∧ y ≤ 1048576) (fun _ i => (z.legal.getD []).length - (intOf i).toNat)
            case atStart => exact ⟨0, _, Nat.zero_le _, rfl, rfl, by omega, by omega⟩
            case round => as_aux_lemma =>
              obtain ⟨j, y, hj, rfl, rfl, hy0, hy1⟩ := hrel
              by_cases hjl : j < (z.legal.getD []).length
              · try (exfalso; omega)
                all_goals
                  obtain ⟨l, hlj, hlr⟩ := HLC.out j hjl
                  have e0 := hlr 0 _ rfl
                  simp only [encS, Nat.add_zero] at e0
                  have hla := HM.out l (List.mem_of_getElem? hlj)
                  clear hlr hlj
                  go_wp2
                  · go_ret
                    exact ⟨⟨_, rfl⟩, rfl⟩
                  · go_ret
                    exact ⟨⟨_, rfl⟩, rfl⟩
                  · go_round
                    case rel => exact ⟨j + 1, _, by omega, by go_num, rfl, by omega, by omega⟩
                    case measure => simp [intOf]; omega
              · have dj : decide ((j : Int) < ((z.legal.getD []).length : Int)) = false := by simp; omega
                go_wp2
                go_meet
                case rel => exact ⟨⟨y, rfl, hy0, hy1⟩, rfl⟩
        case rest => as_aux_lemma =>
          obtain ⟨⟨y, rfl, hy0, hy1⟩, hwc⟩ := hcut
          obtain rfl := hwc.symm
          by_cases hB : y + ((z.d.tstreet.length : Nat) : Int) + (((z.d.board.getD []).length : Nat) : Int) + (((z.d.seats.getD []).length : Nat) : Int) ≤ 1048576
          rotate_left
          · have hB2 : 1048576 < y + ((z.d.tstreet.length : Nat) : Int) + (((z.d.board.getD []).length : Nat) : Int) + (((z.d.seats.getD []).length : Nat) : Int) := by omega
            go_wp2
            all_goals
              go_ret
              exact ⟨⟨_, rfl⟩, rfl⟩
          have qa0 : decide ((1048576 : Int) < ((z.d.tstreet.length : Nat) : Int)) = false := by simp; omega
          have qb0 : decide ((1048576 : Int) < y + ((z.d.tstreet.length : Nat) : Int)) = false := by simp; omega
          have qa1 : decide ((1048576 : Int) < (((z.d.board.getD []).length : Nat) : Int)) = false := by simp; omega
          have qb1 : decide ((1048576 : Int) < y + ((z.d.tstreet.length : Nat) : Int) + (((z.d.board.getD []).length : Nat) : Int)) = false := by simp; omega
          have qa2 : decide ((1048576 : Int) < (((z.d.seats.getD []).length : Nat) : Int)) = false := by simp; omega
          have qb2 : decide ((1048576 : Int) < y + ((z.d.tstreet.length : Nat) : Int) + (((z.d.board.getD []).length : Nat) : Int) + (((z.d.seats.getD []).length : Nat) : Int)) = false := by simp; omega
          rcases HSK.out with hs0 | ⟨hs0, sb, soff, rfl, HSC⟩
          all_goals
            go_wp2_with fail
            go_loop [5, 8] (fun t i => ∃ (j : Nat) (y : Int), j ≤ (z.d.seats.getD []).length ∧ i = .int .i64 j ∧ t = .int .i64 y ∧ 0 ≤ y ∧ y ≤ 1048576) (fun _ i => (z.d.seats.getD []).length - (intOf i).toNat)
            case atStart => exact ⟨0, _, Nat.zero_le _, rfl, rfl, by omega, by omega⟩
            case round => as_aux_lemma =>
              obtain ⟨j2, y2, hj2, rfl, rfl, hv0, hv1⟩ := hrel
              by_cases hjs : j2 < (z.d.seats.getD []).length
              · try (exfalso; omega)
                all_goals
                  obtain ⟨d, cv, hdj, hseat⟩ := HSC.out j2 hjs
                  obtain ⟨co, cc, hcv, _⟩ := hseat.cards.row
                  have e1 := hseat.c1
                  have e6 := hseat.c6
                  rw [hcv] at e6
                  simp only [encS] at e1
                  obtain ⟨hln, hlc⟩ := HNM.out d (List.mem_of_getElem? hdj)
                  clear hseat hdj hcv
                  go_wp2
                  · go_ret
                    exact ⟨⟨_, rfl⟩, rfl⟩
                  · go_ret
                    exact ⟨⟨_, rfl⟩, rfl⟩
                  · go_ret
                    exact ⟨⟨_, rfl⟩, rfl⟩
                  · go_ret
                    exact ⟨⟨_, rfl⟩, rfl⟩
                  · go_round
                    case rel => exact ⟨j2 + 1, _, by omega, by go_num, rfl, by omega, by omega⟩
                    case measure => simp [intOf]; omega
              · have dj2 : decide ((j2 : Int) < ((z.d.seats.getD []).length : Int)) = false := by simp; omega
                go_wp2
                go_round
                case rel => exact ⟨k + 1, y2, by omega, by go_num, rfl, hv0, hv1⟩
                case measure => simp [intOf]; omega
    · have d3 : decide ((k : Int) < (zs.length : Int)) = false := by simp; omega
      go_wp2
      go_ret
      exact ⟨⟨_, rfl⟩, rfl⟩
end Go.Proofs.Qxb6618929a
