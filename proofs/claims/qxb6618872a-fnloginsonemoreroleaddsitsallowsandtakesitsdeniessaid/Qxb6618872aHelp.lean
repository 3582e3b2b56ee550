/-
  THE LAW's HELPERS THAT COUNT BYTES: zzAddString, zzAddStrings, zzRoleBytes, zzRolesBytes.
-/
import Derived.Test.Qxb6618872aSets
import Derived.Deep.DeepCutAuto
namespace Go.Proofs.Qxb6618872a
open Go Go.RowKit

/-- The strings that a slice of strings holds. -/
def StrsAt (w : World) (ao : Option Addr) (n : Nat) (ss : List ByteArray) : Prop :=
  ss.length = n ∧ (ao = none → n = 0) ∧ (∀ s ∈ ss, s.size ≤ maxLen) ∧
  (0 < n → ∃ b off, b < w.heap.size ∧ ao = some ⟨b, off, none⟩ ∧ ∀ i, i < n → w.cell? ⟨b, off + i, none⟩ = some (.string (ss.getD i ByteArray.empty)))

theorem StrsAt.below {w w' : World} {B : Nat} {ao : Option Addr} {n : Nat} {ss : List ByteArray} (h : StrsAt w ao n ss) (hB : w.heap.size ≤ B) (hb : Below B w w') : StrsAt w' ao n ss := by
  obtain ⟨h1, h2, h3, h4⟩ := h
  refine ⟨h1, h2, h3, fun h0 => ?_⟩
  obtain ⟨b, off, hlt, ha, hc⟩ := h4 h0
  exact ⟨b, off, Nat.lt_of_lt_of_le hlt hb.size, ha, fun i hi => (hb.cell (p := ⟨b, off + i, none⟩) (Nat.lt_of_lt_of_le hlt hB)).trans (hc i hi)⟩

theorem getD_size {ss : List ByteArray} (h : ∀ s ∈ ss, s.size ≤ maxLen) (i : Nat) : (ss.getD i ByteArray.empty).size ≤ maxLen := by
  rw [List.getD]
  by_cases hi : i < ss.length
  · rw [List.getElem?_eq_getElem hi]; exact h _ (List.getElem_mem _)
  · rw [List.getElem?_eq_none (by omega)]; simp [maxLen]

/-- It answers a number from 0 to 1048577. -/
def SaysT (e : Ending) : Prop := ∃ t : Int, e = .returned (.int .i64 t) ∧ 0 ≤ t ∧ t ≤ 1048577

theorem addString (t : Int) (s : ByteArray) (w : World) (h0 : 0 ≤ t) (h1 : t ≤ 1048700) (hs : s.size ≤ maxLen) :
    Calls Try.prog 10 #[.int .i64 t, .string s] w fun e w' => SaysT e ∧ w = w' := by
  unfold maxLen at hs
  go_enter Try.func10, Try.ntmps10
  go_wp2
  all_goals
    go_ret
    exact ⟨⟨_, rfl, by omega, by omega⟩, rfl⟩

theorem addStrings (t : Int) (ao : Option Addr) (n c : Nat) (ss : List ByteArray) (w : World) (h0 : 0 ≤ t) (h1 : t ≤ 1048700) (hn : n ≤ maxLen) (hs : StrsAt w ao n ss) :
    Calls Try.prog 11 #[.int .i64 t, .slice ao n c] w fun e w' => SaysT e ∧ w = w' := by
  obtain ⟨hl, hnil, hsz, hcell⟩ := hs
  unfold maxLen at hn
  by_cases ht : t ≤ 1048576
  · by_cases hp : 0 < n
    · obtain ⟨b, off, hb, rfl, hcl⟩ := hcell hp
      clear hcell
      go_enter Try.func11, Try.ntmps11
      go_wp2
      go_loop [0, 6, 11] (fun u _ i => ∃ (k : Nat) (z : Int), k ≤ n ∧ i = .int .i64 k ∧ u = .int .i64 z ∧ 0 ≤ z ∧ z ≤ 1048576) (fun _ _ i => n - (intOf i).toNat)
      case atStart => exact ⟨0, t, Nat.zero_le _, rfl, rfl, h0, ht⟩
      case round =>
        obtain ⟨k, z, hk, rfl, rfl, hz0, hz1⟩ := hrel
        by_cases hlt : k < n
        · have hc := hcl k hlt
          have hss := getD_size hsz k
          have HC := hd hcl
          clear hcl hsz
          generalize ss.getD k ByteArray.empty = s at hc hss
          go_wp2_with fail
          refine (addString z s _ hz0 (by omega) hss).mono ?_
          rintro e w1 ⟨⟨t1, rfl, ht0, ht1⟩, rfl⟩
          by_cases h2 : t1 ≤ 1048576
          · go_wp2
            go_round
            case rel => exact ⟨k + 1, t1, by omega, by go_num, rfl, ht0, h2⟩
            case measure => simp [intOf]; omega
          · go_wp2
            go_ret
            exact ⟨⟨_, rfl, by omega, by omega⟩, rfl⟩
        · go_wp2
          go_ret
          exact ⟨⟨z, rfl, by omega, by omega⟩, rfl⟩
    · have hn0 : n = 0 := by omega
      subst hn0
      clear hcell
      go_enter Try.func11, Try.ntmps11
      go_wp2
      refine wp_loop_rounds 1 ?_
      rw [rounds_succ]
      go_wp2
      go_ret
      exact ⟨⟨t, rfl, by omega, by omega⟩, rfl⟩
  · clear hcell
    go_enter Try.func11, Try.ntmps11
    go_wp2
    go_ret
    exact ⟨⟨_, rfl, by omega, by omega⟩, rfl⟩

/-- One role as it came in. -/
structure RIn where
  name : ByteArray
  aa : Option Addr
  an : Nat
  ac : Nat
  al : List ByteArray
  da : Option Addr
  dn : Nat
  dc : Nat
  de : List ByteArray

def RIn.none : RIn := ⟨ByteArray.empty, Option.none, 0, 0, [], Option.none, 0, 0, []⟩
def RIn.cells (r : RIn) : List Value := [.string r.name, .slice r.aa r.an r.ac, .slice r.da r.dn r.dc]
def RIn.ok (w : World) (r : RIn) : Prop := r.name.size ≤ maxLen ∧ r.an ≤ maxLen ∧ r.dn ≤ maxLen ∧ StrsAt w r.aa r.an r.al ∧ StrsAt w r.da r.dn r.de
theorem RIn.ok.below {w w' : World} {B : Nat} {r : RIn} (h : r.ok w) (hB : w.heap.size ≤ B) (hb : Below B w w') : r.ok w' :=
  ⟨h.1, h.2.1, h.2.2.1, h.2.2.2.1.below hB hb, h.2.2.2.2.below hB hb⟩

theorem roleBytes (t : Int) (r : RIn) (w : World) (h0 : 0 ≤ t) (h1 : t ≤ 1048700) (hr : r.ok w) :
    Calls Try.prog 6 #[.int .i64 t, .agg r.cells.toArray] w fun e w' => SaysT e ∧ w' = w.alloc (.cells r.cells.toArray 25) := by
  obtain ⟨hnm, han, hdn, hal, hde⟩ := hr
  have hb1 : Below w.heap.size w (w.alloc (.cells r.cells.toArray 25)) := (Below.refl _ _).alloc (Nat.le_refl _) _
  have HA := hd (hal.below (Nat.le_refl _) hb1)
  have HD := hd (hde.below (Nat.le_refl _) hb1)
  clear hal hde hb1
  obtain ⟨nm, aa, an, ac, al, da, dn, dc, de⟩ := r
  simp only [RIn.cells] at *
  go_enter Try.func6, Try.ntmps6
  go_wp2_with fail
  refine (addString t nm _ h0 h1 hnm).mono ?_
  rintro e w1 ⟨⟨t1, rfl, ht0, ht1⟩, h⟩
  obtain rfl := h
  go_wp2_with fail
  refine (addStrings t1 aa an ac al _ ht0 (by omega) han HA.out).mono ?_
  rintro e w1 ⟨⟨t2, rfl, ht20, ht21⟩, h⟩
  obtain rfl := h
  go_wp2_with fail
  refine (addStrings t2 da dn dc de _ ht20 (by omega) hdn HD.out).mono ?_
  rintro e w1 ⟨⟨t3, rfl, ht30, ht31⟩, h⟩
  obtain rfl := h
  go_wp2
  go_ret
  exact ⟨⟨t3, rfl, ht30, ht31⟩, rfl⟩
end Go.Proofs.Qxb6618872a
