/-
  WHAT BOTH ROWS OF THE SEAT SHARE: the listed sentinel, the witness' world, slices of strings as they came in.
-/
import Derived.Test.Qxb6618929aDoorCut
import Derived.ProofKit
import Derived.OpenShut
import Derived.ShutString
import Derived.SliceStrings
import Derived.LaidMore
import Derived.LaidHandle
import Derived.Stop.Joined
import Derived.Stop.LaidErr
namespace Go.Proofs.Qxb6618929aDoor
open Go Go.ChangeShapes Go.WideShapes Go.ChangeAt Go.RowKit

theorem own : ownKnob Tryd.prog.godebug = none := by kernel_rfl
theorem laidOut : laidOutB Tryd.prog = true := by kernel_rfl
/-- The listed variable's name, as the row says it. -/
def errName : String := Rows.fnLoaderVarintReadsBackStoredSpec.vars.headD ""
theorem gErr : Tryd.prog.globalNamed errName = some 0 := by kernel_rfl
theorem tErr : (Tryd.prog.globals[0]?).map (·.type) = some 44 := by kernel_rfl
theorem Tryd.cells9 : Tryd.prog.cellsOf 9 = 1 := by kernel_rfl

def laidL : List (String × DataW Unit) := Rows.fnLoaderVarintReadsBackStoredRow.laid

/-- The door's own heap meets the condition. -/
theorem door_met (os : Os) (args : Array Value) : laidMetH Tryd.prog laidL ((World.doorLaid Tryd.prog 400 os).forCall (fun _ _ => 0) ⟨#[], args, []⟩).memory :=
  laidMetH_of_parts3 (fuel := 8) (laidMet_of_run' 8 (by kernel_rfl) (by kernel_rfl)) (by kernel_rfl) (by kernel_rfl)

/-- WHAT THE CONDITION GIVES: the variable holds an error that is not nil. -/
theorem of_laid {W : World} (h : laidMetH Tryd.prog laidL W) : ∃ (t : TypeId) (x : Value), W.var? Tryd.prog errName = some #[.iface t x] ∧ W.cell? ⟨0, 0, none⟩ = some (.iface t x) := by
  rw [MakeChecks.laidMetH_plain _ _ _ (by kernel_rfl)] at h
  obtain ⟨ps, ⟨g0, t0, cs0, f0, p0, q0, hg0, ht0, hv0, hd0, _⟩, _⟩ := h
  obtain rfl := Option.some.inj (gErr.symm.trans hg0)
  obtain rfl := Option.some.inj (tErr.symm.trans ht0)
  obtain ⟨_, u, v, hcs, _, _⟩ := iface_of_trod Tryd.underlying44 hd0
  obtain rfl : cs0 = #[.iface u v] := by cases cs0; simp_all
  exact ⟨u, v, hv0, by simpa using World.var?_cell gErr hv0 0⟩

/-- A slice of strings that came in, as the walks are told of it. -/
theorem strs_of {H : Type} {enc : TypeId × Value → H} {W : World} {v : Value} {d : DataW H} {p : List MemPlace} {base : Nat} (hv : Value.okWide Tryd.prog W .any base 24 v)
    (h : DataW.Trod enc Tryd.prog W 0 (fun _ => true) true 24 v d p) : ∃ (ao : Option Addr) (n c : Nat) (ss : List ByteArray), v = .slice ao n c ∧ n ≤ 9223372036854775807 ∧ (ao = none → n = 0 ∧ c = 0) ∧ StrsAt W ao n ss := by
  obtain ⟨ao, n, c, rfl⟩ := okWide_slice Tryd.underlying24 hv
  obtain ⟨fuel, hf⟩ := h
  rcases open_strings Tryd.underlying24 Tryd.underlying9 Tryd.cells9 hf with ⟨hcs, _⟩ | ⟨x, l, cp, ss, hcs, _, hl, hm, hz, _, hcell, hws⟩
  · simp [Value.cells] at hcs
    obtain ⟨rfl, rfl, rfl⟩ := hcs
    exact ⟨none, 0, 0, [], rfl, by omega, fun _ => ⟨rfl, rfl⟩, rfl, fun _ => rfl, fun i hi => by omega, fun h => by omega⟩
  · simp [Value.cells] at hcs
    obtain ⟨rfl, rfl, rfl⟩ := hcs
    unfold maxLen at hm hws
    have hz' : ss.length = c := by simpa using hz
    refine ⟨some x, n, c, ss.take n, rfl, by omega, fun h => (by cases h), (by simp; omega), fun h => (by cases h), fun i hi => ?_, fun h0 => ?_⟩
    · have : i < ss.length := by omega
      have e : (ss.take n).getD i ByteArray.empty = ss[i] := by simp [List.getD, hi, List.getElem?_eq_getElem this]
      rw [e]
      have := hws ss[i] (List.getElem_mem _)
      omega
    · obtain ⟨b, off, spot⟩ := x
      have hc := hcell 0 (by omega)
      have hspot : spot = none := by simpa [Addr.add] using World.cell?_spot hc
      subst hspot
      refine ⟨b, off, ?_, rfl, fun i hi => ?_⟩
      · have := World.block_lt_of_cell? W _ hc
        simpa [Addr.add] using this
      · have h1 := hcell i (by omega)
        rw [Addr.add_lit] at h1
        rw [h1]
        simp [List.getD, hi]
end Go.Proofs.Qxb6618929aDoor
