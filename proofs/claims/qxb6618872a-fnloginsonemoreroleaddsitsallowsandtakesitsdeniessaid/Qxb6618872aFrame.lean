/-
  THE ROW: what came in, opened; the walk; what is read behind it.
-/
import Derived.Test.Qxb6618872aMain
import Derived.ProofKit
import Derived.OpenShut
import Derived.ShutString
import Derived.SliceStrings
import Derived.Deep.Slices
import Derived.Lib.SmallJoins
namespace Go.Proofs.Qxb6618872a
open Go Go.ChangeShapes Go.WideShapes Go.ChangeAt Go.RowKit Go.Joins Go.Deep

theorem own : ownKnob Try.prog.godebug = none := by kernel_rfl
theorem laidOut : laidOutB Try.prog = true := by kernel_rfl
theorem cells9 : Try.prog.cellsOf 9 = 1 := by kernel_rfl
theorem cells23 : Try.prog.cellsOf 23 = 1 := by kernel_rfl
theorem list3 {l : List Value} (h : l.length = 3) : ∃ a b c, l = [a, b, c] := by
  match l, h with
  | [a, b, c], _ => exact ⟨a, b, c, rfl⟩
theorem cells25 : Try.prog.cellsOf 25 = 3 := by kernel_rfl

theorem strs_of {H : Type} {enc : TypeId × Value → H} {W : World} {v : Value} {n : Nat} {y : DataW H × List MemPlace} (hf : DataW.trod enc Try.prog W 0 (fun _ => true) true n 23 [v] = some y) :
    ∃ (ao : Option Addr) (n c : Nat) (ss : List ByteArray), v = .slice ao n c ∧ n ≤ maxLen ∧ StrsAt W ao n ss := by
  rcases open_strings Try.underlying23 Try.underlying9 cells9 hf with ⟨hcs, _⟩ | ⟨x, l, cp, ss, hcs, _, hl, hm, hz, _, hcell, hws⟩
  · obtain rfl : v = .slice none 0 0 := by simpa using hcs
    exact ⟨none, 0, 0, [], rfl, by simp [maxLen], rfl, fun _ => rfl, fun s hs => by simp at hs, fun h => by omega⟩
  · obtain rfl : v = .slice (some x) l cp := by simpa using hcs
    have hz' : ss.length = cp := by simpa using hz
    refine ⟨some x, l, cp, ss.take l, rfl, Nat.le_trans hl hm, (by simp; omega), fun h => (by cases h), fun s hs => hws s (List.mem_of_mem_take hs), fun h0 => ?_⟩
    obtain ⟨b, off, spot⟩ := x
    have hc := hcell 0 (by omega)
    have hspot : spot = none := by simpa [Addr.add] using World.cell?_spot hc
    subst hspot
    refine ⟨b, off, ?_, rfl, fun i hi => ?_⟩
    · have := World.block_lt_of_cell? W _ hc
      simpa [Addr.add] using this
    · have h1 := hcell i (by omega)
      rw [Addr.add_mid] at h1
      rw [h1]
      simp [List.getD, hi]

theorem role_of {H : Type} {enc : TypeId × Value → H} {W : World} {v0 v1 v2 : Value} {n : Nat} {y0 y1 y2 : DataW H × List MemPlace}
    (h0 : DataW.trod enc Try.prog W 0 (fun _ => true) true n 9 [v0] = some y0) (h1 : DataW.trod enc Try.prog W 0 (fun _ => true) true n 23 [v1] = some y1) (h2 : DataW.trod enc Try.prog W 0 (fun _ => true) true n 23 [v2] = some y2) :
    ∃ r : RIn, r.cells = [v0, v1, v2] ∧ r.ok W := by
  obtain ⟨s, hs, _, hl⟩ := DataW.trod_string Try.underlying9 h0
  obtain rfl : v0 = .string s := by simpa using hs
  obtain ⟨aa, an, ac, al, rfl, g1, g2⟩ := strs_of h1
  obtain ⟨da, dn, dc, de, rfl, g3, g4⟩ := strs_of h2
  exact ⟨⟨s, aa, an, ac, al, da, dn, dc, de⟩, rfl, hl, g1, g3, g2, g4⟩

theorem roles_list {Pr : Nat → RIn → Prop} : ∀ n, (∀ i, i < n → ∃ r, Pr i r) → ∃ rs : List RIn, rs.length = n ∧ ∀ i, i < n → Pr i (rs.getD i RIn.none)
  | 0, _ => ⟨[], rfl, fun i h => by omega⟩
  | n + 1, h => by
    obtain ⟨rs, h1, h2⟩ := roles_list n (fun i hi => h i (by omega))
    obtain ⟨r, hr⟩ := h n (by omega)
    refine ⟨rs ++ [r], by simp [h1], fun i hi => ?_⟩
    by_cases e : i = n
    · subst e
      simpa [List.getD, ← h1] using hr
    · have := h2 i (by omega)
      rwa [List.getD, List.getElem?_append_left (by omega), ← List.getD]

theorem roles_of {H : Type} {enc : TypeId × Value → H} {W : World} {v : Value} {n : Nat} {y : DataW H × List MemPlace} (hf : DataW.trod enc Try.prog W 0 (fun _ => true) true n 22 [v] = some y) :
    ∃ (ao : Option Addr) (n c : Nat) (rs : List RIn), v = .slice ao n c ∧ n ≤ maxLen ∧ RolesAt W ao n rs := by
  rcases open_slice Try.underlying22 hf with ⟨hcs, _⟩ | ⟨a, len, cap, m, n, D, Pl, hcs, _, hl, hm, hmm, _, hx⟩
  · obtain rfl : v = .slice none 0 0 := by simpa using hcs
    exact ⟨none, 0, 0, [], rfl, by simp [maxLen], rfl, fun r hr => by simp at hr, fun h => by omega⟩
  · obtain rfl : v = .slice (some a) len cap := by simpa using hcs
    have hlm : len ≤ m := by rw [hmm]; split <;> omega
    have each : ∀ i, i < len → ∃ r : RIn, (W.cell? (a.add (i * 3)) = some (.string r.name) ∧ W.cell? (a.add (i * 3 + 1)) = some (.slice r.aa r.an r.ac) ∧ W.cell? (a.add (i * 3 + 2)) = some (.slice r.da r.dn r.dc)) ∧ r.ok W := by
      intro i hi
      obtain ⟨cs', h1, h2⟩ := hx i (by omega)
      rw [cells25] at h1
      obtain ⟨_, hlen, hcell⟩ := World.cells?_some h1
      obtain ⟨y0, y1, y2, n', _, _, g0, g1, g2⟩ := trod_struct3 Try.underlying25 h2
      obtain ⟨v0, v1, v2, rfl⟩ := list3 hlen
      obtain ⟨r, hr, hok⟩ := role_of (v0 := v0) (v1 := v1) (v2 := v2) (by simpa [cells9] using g0) (by simpa [cells23] using g1) (by simpa [cells23] using g2)
      have e0 := hcell 0 (by omega)
      have e1 := hcell 1 (by omega)
      have e2 := hcell 2 (by omega)
      rw [add_add] at e0 e1 e2
      simp only [RIn.cells, List.cons.injEq] at hr
      refine ⟨r, ⟨?_, ?_, ?_⟩, hok⟩
      · simpa [hr.1] using e0
      · simpa [hr.2.1] using e1
      · simpa [hr.2.2.1] using e2
    obtain ⟨rs, h1, h2⟩ := roles_list len each
    refine ⟨some a, len, cap, rs, rfl, Nat.le_trans hl hm, h1, fun r hr => ?_, fun h0 => ?_⟩
    · obtain ⟨i, hi, rfl⟩ := List.getElem_of_mem hr
      have := (h2 i (by omega)).2
      rwa [List.getD, List.getElem?_eq_getElem hi] at this
    · obtain ⟨b, off, spot⟩ := a
      have hc := (h2 0 h0).1.1
      have hspot : spot = none := by simpa [Addr.add] using World.cell?_spot hc
      subst hspot
      refine ⟨b, off, ?_, rfl, fun i hi => ?_⟩
      · have := World.block_lt_of_cell? W _ hc
        simpa [Addr.add] using this
      · have := (h2 i hi).1
        simp only [Addr.add_mid] at this
        exact ⟨this.1, by simpa [Nat.add_assoc] using this.2.1, by simpa [Nat.add_assoc] using this.2.2⟩
end Go.Proofs.Qxb6618872a
