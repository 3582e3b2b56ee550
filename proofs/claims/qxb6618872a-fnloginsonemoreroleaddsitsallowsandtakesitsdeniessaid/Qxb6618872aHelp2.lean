/-
  zzRolesBytes and zzBytes_..
-/
import Derived.Test.Qxb6618872aHelp
namespace Go.Proofs.Qxb6618872a
open Go Go.RowKit

/-- The roles that a slice of roles holds. -/
def RolesAt (w : World) (ao : Option Addr) (n : Nat) (rs : List RIn) : Prop :=
  rs.length = n ∧ (∀ r ∈ rs, r.ok w) ∧
  (0 < n → ∃ b off, b < w.heap.size ∧ ao = some ⟨b, off, none⟩ ∧ ∀ i, i < n → w.cell? ⟨b, off + i * 3, none⟩ = some (.string (rs.getD i RIn.none).name) ∧
    w.cell? ⟨b, off + i * 3 + 1, none⟩ = some (.slice (rs.getD i RIn.none).aa (rs.getD i RIn.none).an (rs.getD i RIn.none).ac) ∧
    w.cell? ⟨b, off + i * 3 + 2, none⟩ = some (.slice (rs.getD i RIn.none).da (rs.getD i RIn.none).dn (rs.getD i RIn.none).dc))

theorem RolesAt.below {w w' : World} {B : Nat} {ao : Option Addr} {n : Nat} {rs : List RIn} (h : RolesAt w ao n rs) (hB : w.heap.size ≤ B) (hb : Below B w w') : RolesAt w' ao n rs := by
  obtain ⟨h1, h2, h3⟩ := h
  refine ⟨h1, fun r hr => (h2 r hr).below hB hb, fun h0 => ?_⟩
  obtain ⟨b, off, hlt, ha, hc⟩ := h3 h0
  have hB' := Nat.lt_of_lt_of_le hlt hB
  exact ⟨b, off, Nat.lt_of_lt_of_le hlt hb.size, ha, fun i hi => ⟨(hb.cell (p := ⟨b, off + i * 3, none⟩) hB').trans (hc i hi).1, (hb.cell (p := ⟨b, off + i * 3 + 1, none⟩) hB').trans (hc i hi).2.1, (hb.cell (p := ⟨b, off + i * 3 + 2, none⟩) hB').trans (hc i hi).2.2⟩⟩

theorem getD_mem {rs : List RIn} {i : Nat} (h : i < rs.length) : rs.getD i RIn.none ∈ rs := by
  rw [List.getD, List.getElem?_eq_getElem h]; exact List.getElem_mem _

set_option maxHeartbeats 1000000 in
theorem rolesBytes (t : Int) (ao : Option Addr) (n c : Nat) (rs : List RIn) (w : World) (h0 : 0 ≤ t) (h1 : t ≤ 1048700) (hn : n ≤ maxLen) (hs : RolesAt w ao n rs) :
    Calls Try.prog 5 #[.int .i64 t, .slice ao n c] w fun e w' => SaysT e ∧ w.grownBy w' none := by
  obtain ⟨hl, hok, hcell⟩ := hs
  unfold maxLen at hn
  by_cases ht : t ≤ 1048576
  · by_cases hp : 0 < n
    · obtain ⟨b, off, hb, rfl, hcl⟩ := hcell hp
      clear hcell
      have HC := hd hcl
      have HO := hd hok
      clear hcl hok
      go_enter Try.func5, Try.ntmps5
      go_wp2
      go_loopw [0, 6, 11] (fun u _ i wr => ∃ (k : Nat) (z : Int), k ≤ n ∧ i = .int .i64 k ∧ u = .int .i64 z ∧ 0 ≤ z ∧ z ≤ 1048576 ∧ w.grownBy wr none) (fun _ _ i _ => n - (intOf i).toNat)
      case atStart => exact ⟨0, t, Nat.zero_le _, rfl, rfl, h0, ht, World.grownBy.refl _ _⟩
      case round =>
        obtain ⟨k, z, hk, rfl, rfl, hz0, hz1, hg⟩ := hrel
        by_cases hlt : k < n
        · have hbel : Below w.heap.size w wr := (Below.refl _ _).grown hg (Nat.le_refl _) (fun j h => by cases h)
          obtain ⟨e0, e1, e2⟩ := HC.out k hlt
          have f0 := (hbel.cell (p := ⟨b, off + k * 3, none⟩) hb).trans e0
          have f1 := (hbel.cell (p := ⟨b, off + k * 3 + 1, none⟩) hb).trans e1
          have f2 := (hbel.cell (p := ⟨b, off + k * 3 + 2, none⟩) hb).trans e2
          have hrk := (HO.out _ (getD_mem (by omega : k < rs.length))).below (Nat.le_refl _) hbel
          have HG := hd hg
          have HRK := hd hrk
          clear e0 e1 e2 hg hrk hbel
          generalize rs.getD k RIn.none = r at f0 f1 f2 HRK
          obtain ⟨nm, aa, an, ac, al, da, dn, dc, de⟩ := r
          simp only at f0 f1 f2
          have hga : w.grownBy ((wr.alloc (.cells #[.string nm, .slice aa an ac, .slice da dn dc] 25)).alloc (.cells #[.string nm, .slice aa an ac, .slice da dn dc] 25)) none := (HG.out.trans (World.grownBy_alloc _ _ none)).trans (World.grownBy_alloc _ _ none)
          have HGA := hd hga
          clear hga
          go_wp2_with fail
          refine (roleBytes (z + 48) ⟨nm, aa, an, ac, al, da, dn, dc, de⟩ _ (by omega) (by omega) (HRK.out.below (Nat.le_refl _) ((Below.refl _ _).alloc (Nat.le_refl _) _))).mono ?_
          rintro e w1 ⟨⟨t1, rfl, ht0, ht1⟩, rfl⟩
          by_cases h2 : t1 ≤ 1048576
          · go_wp2
            go_roundw
            case rel => exact ⟨k + 1, t1, by omega, by go_num, rfl, ht0, h2, HGA.out⟩
            case measure => simp [intOf]; omega
          · go_wp2
            go_ret
            exact ⟨⟨_, rfl, by omega, by omega⟩, HGA.out⟩
        · go_wp2
          go_ret
          exact ⟨⟨z, rfl, by omega, by omega⟩, hg⟩
    · have hn0 : n = 0 := by omega
      subst hn0
      clear hcell
      go_enter Try.func5, Try.ntmps5
      go_wp2
      refine wp_loop_rounds 1 ?_
      rw [rounds_succ]
      go_wp2
      go_ret
      exact ⟨⟨t, rfl, by omega, by omega⟩, World.grownBy.refl _ _⟩
  · clear hcell
    go_enter Try.func5, Try.ntmps5
    go_wp2
    go_ret
    exact ⟨⟨_, rfl, by omega, by omega⟩, World.grownBy.refl _ _⟩
end Go.Proofs.Qxb6618872a
