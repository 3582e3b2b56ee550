/-
  zzBytes_..: true only where the lengths are at most 1048576.
-/
import Derived.Test.Qxb6618872aHelp2
namespace Go.Proofs.Qxb6618872a
open Go Go.RowKit

/-- It answers a bool, and true only where Y. -/
def SaysB (e : Ending) (Y : Prop) : Prop := ∃ r : Bool, e = .returned (.bool r) ∧ (r = true → Y)
def Small (r : RIn) : Prop := r.an ≤ 1048576 ∧ r.dn ≤ 1048576

/-- A slice of strings: empty, or at an address with its cells. -/
theorem StrsAt.parts {w : World} {ao : Option Addr} {n : Nat} {ss : List ByteArray} (h : StrsAt w ao n ss) :
    n ≤ 0 ∨ (0 < n ∧ ∃ b off, ao = some ⟨b, off, none⟩ ∧ b < w.heap.size ∧ Hid (∀ i, i < n → ∃ s : ByteArray, s.size ≤ 9223372036854775807 ∧ w.cell? ⟨b, off + i, none⟩ = some (.string s))) := by
  obtain ⟨_, _, h3, h4⟩ := h
  by_cases h0 : 0 < n
  · obtain ⟨b, off, hb, ha, hc⟩ := h4 h0
    refine .inr ⟨h0, b, off, ha, hb, fun i hi => ⟨_, ?_, hc i hi⟩⟩
    have := getD_size h3 i
    unfold maxLen at this
    omega
  · exact .inl (by omega)

set_option maxRecDepth 100000 in
set_option maxHeartbeats 4000000 in
theorem zzBytes (ao : Option Addr) (n c : Nat) (rs : List RIn) (pk : ByteArray) (x : RIn) (w : World) (hn : n ≤ maxLen) (hs : RolesAt w ao n rs) (hp : pk.size ≤ maxLen) (hx : x.ok w) :
    Calls Try.prog 4 #[.slice ao n c, .string pk, .agg x.cells.toArray] w fun e w' => SaysB e (n ≤ 1048576 ∧ (∀ r ∈ rs, Small r) ∧ Small x) ∧ w' = w.alloc (.cells x.cells.toArray 25) := by
  obtain ⟨hl, hok, hcell⟩ := hs
  have hb1 : Below w.heap.size w (w.alloc (.cells x.cells.toArray 25)) := (Below.refl _ _).alloc (Nat.le_refl _) _
  have HOK := hd (show ∀ r ∈ rs, r.ok (w.alloc (.cells x.cells.toArray 25)) from fun r hr => (hok r hr).below (Nat.le_refl _) hb1)
  have HXK := hd (hx.below (Nat.le_refl _) hb1)
  unfold maxLen at hn hp
  have key : n ≤ 0 ∨ (0 < n ∧ ∃ b off, ao = some ⟨b, off, none⟩ ∧ Hid (∀ i, i < n → (w.alloc (.cells x.cells.toArray 25)).cell? ⟨b, off + i * 3, none⟩ = some (.string (rs.getD i RIn.none).name) ∧
    (w.alloc (.cells x.cells.toArray 25)).cell? ⟨b, off + i * 3 + 1, none⟩ = some (.slice (rs.getD i RIn.none).aa (rs.getD i RIn.none).an (rs.getD i RIn.none).ac) ∧
    (w.alloc (.cells x.cells.toArray 25)).cell? ⟨b, off + i * 3 + 2, none⟩ = some (.slice (rs.getD i RIn.none).da (rs.getD i RIn.none).dn (rs.getD i RIn.none).dc))) := by
    by_cases h0 : 0 < n
    · obtain ⟨b, off, hb, ha, hc⟩ := hcell h0
      exact .inr ⟨h0, b, off, ha, fun i hi => ⟨(hb1.cell (p := ⟨b, off + i * 3, none⟩) hb).trans (hc i hi).1, (hb1.cell (p := ⟨b, off + i * 3 + 1, none⟩) hb).trans (hc i hi).2.1, (hb1.cell (p := ⟨b, off + i * 3 + 2, none⟩) hb).trans (hc i hi).2.2⟩⟩
    · exact .inl (by omega)
  clear hcell hok hb1 hx
  obtain ⟨nm, aa, an, ac, al, da, dn, dc, de⟩ := x
  simp only [RIn.cells] at *
  by_cases hn1 : n ≤ 1048576
  rotate_left
  · clear key
    go_enter Try.func4, Try.ntmps4
    go_wp2
    go_ret
    exact ⟨⟨false, rfl, by simp⟩, rfl⟩
  have d1 : decide ((1048576 : Int) < (n : Int)) = false := by simp; omega
  rcases key with hn0 | ⟨hpos, b, off, rfl, HC⟩
  all_goals
    go_enter Try.func4, Try.ntmps4
    go_wp2
    go_loop [7, 8, 9, 10] (fun t i _ _ => ∃ (k : Nat) (z : Int), k ≤ n ∧ i = .int .i64 k ∧ t = .int .i64 z ∧ 0 ≤ z ∧ z ≤ 1048576 ∧ Hid (∀ j, j < k → Small (rs.getD j RIn.none))) (fun _ i _ _ => n - (intOf i).toNat)
    case atStart => exact ⟨0, _, Nat.zero_le _, rfl, rfl, by omega, by omega, fun j hj => by omega⟩
    case round =>
      obtain ⟨k, z, hk, rfl, rfl, hz0, hz1, HSM⟩ := hrel
      by_cases hlt : k < n
      · try (exfalso; omega)
        all_goals
          obtain ⟨f0, f1, f2⟩ := HC.out k hlt
          have hrk := HOK.out _ (getD_mem (by omega : k < rs.length))
          have HSM2 := hd (show Small (rs.getD k RIn.none) → ∀ j, j < k + 1 → Small (rs.getD j RIn.none) from fun h j hj => by
            by_cases e : j = k
            · subst e; exact h
            · exact HSM.out j (by omega))
          generalize rs.getD k RIn.none = r at f0 f1 f2 hrk HSM2
          obtain ⟨rnm, raa, ran, rac, ral, rda, rdn, rdc, rde⟩ := r
          simp only at f0 f1 f2
          have hrn : rnm.size ≤ 9223372036854775807 := by have := hrk.1; unfold maxLen at this; simpa using this
          have hra : ran ≤ 9223372036854775807 := by have := hrk.2.1; unfold maxLen at this; simpa using this
          have hrd : rdn ≤ 9223372036854775807 := by have := hrk.2.2.1; unfold maxLen at this; simpa using this
          have P1 := hrk.2.2.2.1.parts
          have P2 := hd (hrk.2.2.2.2.parts)
          simp only at P1 P2
          clear hrk
          by_cases hA : z + rnm.size + ran ≤ 1048576
          rotate_left
          · clear P1 f2
            have hA2 : 1048576 < z + (rnm.size : Int) + (ran : Int) := by omega
            go_wp2
            all_goals
              go_ret
              exact ⟨⟨false, rfl, by simp⟩, rfl⟩
          have d2 : decide ((1048576 : Int) < (rnm.size : Int)) = false := by simp; omega
          have d3 : decide ((1048576 : Int) < z + (rnm.size : Int)) = false := by simp; omega
          have d4 : decide ((1048576 : Int) < (ran : Int)) = false := by simp; omega
          have d5 : decide ((1048576 : Int) < z + (rnm.size : Int) + (ran : Int)) = false := by simp; omega
          rcases P1 with ha0 | ⟨hapos, ab, aoff, rfl, hab, HA⟩
          all_goals
            go_wp2_with fail
            go_loop [7, 9] (fun t i => ∃ (k : Nat) (z : Int), k ≤ ran ∧ i = .int .i64 k ∧ t = .int .i64 z ∧ 0 ≤ z ∧ z ≤ 1048576) (fun _ i => ran - (intOf i).toNat)
            case atStart => exact ⟨0, _, Nat.zero_le _, rfl, rfl, by omega, by omega⟩
            case round =>
              obtain ⟨j, y, hj, rfl, rfl, hy0, hy1⟩ := hrel
              by_cases hjl : j < ran
              · try (exfalso; omega)
                all_goals
                  obtain ⟨s, hss, hsc⟩ := HA.out j hjl
                  go_wp2
                  · go_ret
                    exact ⟨⟨false, rfl, by simp⟩, rfl⟩
                  · go_ret
                    exact ⟨⟨false, rfl, by simp⟩, rfl⟩
                  · go_round
                    case rel => exact ⟨j + 1, _, by omega, by go_num, rfl, by omega, by omega⟩
                    case measure => simp [intOf]; omega
              · try clear HA
                by_cases hB : y + rdn ≤ 1048576
                rotate_left
                · clear P2
                  have hB2 : 1048576 < y + (rdn : Int) := by omega
                  go_wp2
                  all_goals
                    go_ret
                    exact ⟨⟨false, rfl, by simp⟩, rfl⟩
                have d6 : decide ((1048576 : Int) < (rdn : Int)) = false := by simp; omega
                have d7 : decide ((1048576 : Int) < y + (rdn : Int)) = false := by simp; omega
                rcases P2.out with hd0 | ⟨hdpos, db, doff, rfl, hdb, HD⟩
                all_goals
                  go_wp2_with fail
                  go_loop [7, 10] (fun t i => ∃ (k : Nat) (z : Int), k ≤ rdn ∧ i = .int .i64 k ∧ t = .int .i64 z ∧ 0 ≤ z ∧ z ≤ 1048576) (fun _ i => rdn - (intOf i).toNat)
                  case atStart => exact ⟨0, _, Nat.zero_le _, rfl, rfl, by omega, by omega⟩
                  case round =>
                    obtain ⟨j, y, hj, rfl, rfl, hy0, hy1⟩ := hrel
                    by_cases hjl : j < rdn
                    · try (exfalso; omega)
                      all_goals
                        obtain ⟨s, hss, hsc⟩ := HD.out j hjl
                        go_wp2
                        · go_ret
                          exact ⟨⟨false, rfl, by simp⟩, rfl⟩
                        · go_ret
                          exact ⟨⟨false, rfl, by simp⟩, rfl⟩
                        · go_round
                          case rel => exact ⟨j + 1, _, by omega, by go_num, rfl, by omega, by omega⟩
                          case measure => simp [intOf]; omega
                    · go_wp2
                      go_round
                      case rel => exact ⟨k + 1, y, by omega, by go_num, rfl, hy0, hy1, HSM2.out ⟨by simp only; omega, by simp only; omega⟩⟩
                      case measure => simp [intOf]; omega
      · have HFIN := hd (show Small ⟨nm, aa, an, ac, al, da, dn, dc, de⟩ → n ≤ 1048576 ∧ (∀ r ∈ rs, Small r) ∧ Small ⟨nm, aa, an, ac, al, da, dn, dc, de⟩ from fun h => ⟨hn1, fun r hr => by
          obtain ⟨i, hi, rfl⟩ := List.getElem_of_mem hr
          have := HSM.out i (by omega)
          rwa [List.getD, List.getElem?_eq_getElem hi] at this, h⟩)
        have P1 := HXK.out.2.2.2.1.parts
        have P2 := hd (HXK.out.2.2.2.2.parts)
        have hxn : nm.size ≤ 9223372036854775807 := by have := HXK.out.1; unfold maxLen at this; simpa using this
        have hxa : an ≤ 9223372036854775807 := by have := HXK.out.2.1; unfold maxLen at this; simpa using this
        have hxd : dn ≤ 9223372036854775807 := by have := HXK.out.2.2.1; unfold maxLen at this; simpa using this
        simp only at P1 P2
        clear HXK HOK HSM
        try clear HC
        by_cases hA : z + pk.size + nm.size + an ≤ 1048576
        rotate_left
        · clear P1 P2
          have hA2 : 1048576 < z + (pk.size : Int) + (nm.size : Int) + (an : Int) := by omega
          go_wp2
          all_goals
            go_ret
            exact ⟨⟨false, rfl, by simp⟩, rfl⟩
        have d2 : decide ((1048576 : Int) < (pk.size : Int)) = false := by simp; omega
        have d3 : decide ((1048576 : Int) < z + (pk.size : Int)) = false := by simp; omega
        have d4 : decide ((1048576 : Int) < (nm.size : Int)) = false := by simp; omega
        have d5 : decide ((1048576 : Int) < z + (pk.size : Int) + (nm.size : Int)) = false := by simp; omega
        have d8 : decide ((1048576 : Int) < (an : Int)) = false := by simp; omega
        have d9 : decide ((1048576 : Int) < z + (pk.size : Int) + (nm.size : Int) + (an : Int)) = false := by simp; omega
        rcases P1 with ha0 | ⟨hapos, ab, aoff, rfl, hab, HA⟩
        all_goals
          go_wp2_with fail
          go_loop [7, 11] (fun t i => ∃ (k : Nat) (z : Int), k ≤ an ∧ i = .int .i64 k ∧ t = .int .i64 z ∧ 0 ≤ z ∧ z ≤ 1048576) (fun _ i => an - (intOf i).toNat)
          case atStart => exact ⟨0, _, Nat.zero_le _, rfl, rfl, by omega, by omega⟩
          case round =>
            obtain ⟨j, y, hj, rfl, rfl, hy0, hy1⟩ := hrel
            by_cases hjl : j < an
            · try (exfalso; omega)
              all_goals
                obtain ⟨s, hss, hsc⟩ := HA.out j hjl
                go_wp2
                · go_ret
                  exact ⟨⟨false, rfl, by simp⟩, rfl⟩
                · go_ret
                  exact ⟨⟨false, rfl, by simp⟩, rfl⟩
                · go_round
                  case rel => exact ⟨j + 1, _, by omega, by go_num, rfl, by omega, by omega⟩
                  case measure => simp [intOf]; omega
            · try clear HA
              by_cases hB : y + dn ≤ 1048576
              rotate_left
              · clear P2
                have hB2 : 1048576 < y + (dn : Int) := by omega
                go_wp2
                all_goals
                  go_ret
                  exact ⟨⟨false, rfl, by simp⟩, rfl⟩
              have d6 : decide ((1048576 : Int) < (dn : Int)) = false := by simp; omega
              have d7 : decide ((1048576 : Int) < y + (dn : Int)) = false := by simp; omega
              rcases P2.out with hd0 | ⟨hdpos, db, doff, rfl, hdb, HD⟩
              all_goals
                go_wp2_with fail
                go_loop [7, 12] (fun t i => ∃ (k : Nat) (z : Int), k ≤ dn ∧ i = .int .i64 k ∧ t = .int .i64 z ∧ 0 ≤ z ∧ z ≤ 1048576) (fun _ i => dn - (intOf i).toNat)
                case atStart => exact ⟨0, _, Nat.zero_le _, rfl, rfl, by omega, by omega⟩
                case round =>
                  obtain ⟨j, y, hj, rfl, rfl, hy0, hy1⟩ := hrel
                  by_cases hjl : j < dn
                  · try (exfalso; omega)
                    all_goals
                      obtain ⟨s, hss, hsc⟩ := HD.out j hjl
                      go_wp2
                      · go_ret
                        exact ⟨⟨false, rfl, by simp⟩, rfl⟩
                      · go_ret
                        exact ⟨⟨false, rfl, by simp⟩, rfl⟩
                      · go_round
                        case rel => exact ⟨j + 1, _, by omega, by go_num, rfl, by omega, by omega⟩
                        case measure => simp [intOf]; omega
                  · go_wp2
                    go_ret
                    exact ⟨⟨true, rfl, fun _ => (HFIN.out ⟨by simp only; omega, by simp only; omega⟩).2⟩, rfl⟩
end Go.Proofs.Qxb6618872a
