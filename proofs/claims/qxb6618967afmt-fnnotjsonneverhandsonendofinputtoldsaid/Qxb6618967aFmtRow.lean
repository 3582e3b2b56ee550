/-
  THE ROW, TOLD AND TIED.
-/
import Derived.Test.Qxb6618967aFmtMain
import Derived.Test.Qxb6618967aFmtTie
import Derived.Test.Qxb6618967aFmtCards
import Derived.ProofKit
import Derived.OpenShut
import Derived.ShutString
import Derived.LaidMore
import Derived.ChangeMaps5
import Derived.ChangeSlices
import Derived.Stop.Joined
import Derived.Stop.JoinedTold
import Derived.Stop.LaidErr
import Derived.Stop.LaidTwo
import Derived.Deep.DeepWitnessRef
import Derived.SevenTiedAt
namespace Go.Proofs.Qxb6618967aFmt
open Go Go.ChangeShapes Go.WideShapes Go.ChangeAt Go.RowKit Go.Extern.Stop Go.Stop Go.Extern

theorem own : ownKnob Tryf.prog.godebug = none := by kernel_rfl
theorem laidOut : laidOutB Tryf.prog = true := by kernel_rfl
def spec : OpenSpec := OpenSpec.ofChange Rows.fnNotJSONNeverHandsOnEndOfInputSpec
def laidL : List (String × DataW Unit) := Rows.fnNotJSONNeverHandsOnEndOfInputRow.laid
theorem gEOF : Tryf.prog.globalNamed "io.EOF" = some 0 := by kernel_rfl
theorem gUnx : Tryf.prog.globalNamed "io.ErrUnexpectedEOF" = some 1 := by kernel_rfl
/-- The sentinels' type's name, as the row says it. -/
def errNm : String := match (Rows.laid_io_EOF : DataW Unit) with
  | .iface nm _ => nm
  | _ => ""
theorem row51 (u : TypeId) (h : Tryf.prog.typeName? 3 u = some errNm) : u = 51 :=
  typeName_ptr_named (nm := "errors.errorString") (by kernel_rfl) (by kernel_rfl) (by decide) u (h.trans (congrArg some (by decide)))
theorem cells5 : Tryf.prog.cellsOf 5 = 1 := by kernel_rfl
def wargs : Array Value := #[.string ⟨#[]⟩, .slice none 0 0]

theorem laid_met (os : Os) (args : Array Value) : laidMet Tryf.prog laidL ((World.doorLaid Tryf.prog 400 os).forCall (fun _ _ => 0) ⟨#[], args, []⟩).memory :=
  laidMet_of_run' 8 (by kernel_rfl) (by kernel_rfl)

theorem witness_row (os : Os) {H : Type} (enc : TypeId × Value → H) :
    spec.preRow enc Tryf.prog Tryf.f3 Rows.fnNotJSONNeverHandsOnEndOfInputRow.domain false laidL ((World.doorLaid Tryf.prog 400 os).forCall (fun _ _ => 0) ⟨#[], wargs, []⟩).memory wargs := by
  have hw : (DataW.whole enc Tryf.prog ((World.doorLaid Tryf.prog 400 os).forCall (fun _ _ => 0) ⟨#[], wargs, []⟩).memory Tryf.f3.params.toList spec.vars false wargs.toList 8).map (fun x => (x.1, x.2.1)) =
      some ([.lit (.string []), .nil], []) := by kernel_rfl
  obtain ⟨⟨x1, x2, x3⟩, hx, hx1⟩ := Option.map_eq_some_iff.1 hw
  simp only [Prod.mk.injEq] at hx1
  obtain ⟨rfl, rfl⟩ := hx1
  exact OpenSpec.preRow_of_cond 8 hx (by kernel_rfl) (fun k hk => by cases hk) (by kernel_rfl) (laid_met os _)
theorem bytes_of {H : Type} {enc : TypeId × Value → H} {W : World} {v : Value} {d : DataW H} {p : List MemPlace} {base : Nat} (hv : Value.okWide Tryf.prog W .any base 22 v)
    (h : DataW.Trod enc Tryf.prog W 0 (fun _ => true) true 22 v d p) : ∃ (ao : Option Addr) (n c : Nat) (zs : List Int), v = .slice ao n c ∧ n ≤ 9223372036854775807 ∧ (ao = none → n = 0 ∧ c = 0) ∧ BytesAt W ao n zs := by
  obtain ⟨ao, n, c, rfl⟩ := okWide_slice Tryf.underlying22 hv
  obtain ⟨fuel, hf⟩ := h
  rcases open_ints Tryf.underlying22 Tryf.underlying5 cells5 hf with ⟨hcs, _⟩ | ⟨x, l, cp, zs, hcs, _, hl, hm, hz, _, hcell, hwz⟩
  · simp [Value.cells] at hcs
    obtain ⟨rfl, rfl, rfl⟩ := hcs
    exact ⟨none, 0, 0, [], rfl, by omega, fun _ => ⟨rfl, rfl⟩, rfl, .inl (Nat.le_refl _)⟩
  · simp [Value.cells] at hcs
    obtain ⟨rfl, rfl, rfl⟩ := hcs
    unfold maxLen at hm
    have hz' : zs.length = c := by simpa using hz
    refine ⟨some x, n, c, zs.take n, rfl, by omega, fun h => (by cases h), by simp; omega, ?_⟩
    by_cases h0 : 0 < n
    · obtain ⟨b, off, spot⟩ := x
      have hc := hcell 0 (by omega)
      have hspot : spot = none := by simpa [Addr.add] using World.cell?_spot hc
      subst hspot
      refine .inr ⟨h0, b, off, rfl, ?_, fun i hi => ?_⟩
      · have := World.block_lt_of_cell? W _ hc
        simpa [Addr.add] using this
      · have h1 := hcell i (by omega)
        rw [Addr.add_lit] at h1
        rw [h1]
        simp [List.getD, hi]
    · exact .inl (by omega)

set_option maxRecDepth 100000 in
set_option maxHeartbeats 1000000 in
theorem lifted (os : Os) (started : os.Started) (H : Type) (enc : TypeId × Value → H) :
    ReturnsInTold none {} Tryf.checked os 3 .any Input.okWide (spec.preRow enc Tryf.prog Tryf.f3 Rows.fnNotJSONNeverHandsOnEndOfInputRow.domain false laidL)
      (fun F => (spec.at F).post enc Tryf.prog Tryf.f3 Rows.fnNotJSONNeverHandsOnEndOfInputRow.apart Rows.fnNotJSONNeverHandsOnEndOfInputRow.fresh Rows.fnNotJSONNeverHandsOnEndOfInputRow.handsOn Rows.fnNotJSONNeverHandsOnEndOfInputRow.again) (aloneAtReturn Tryf.prog) nothingAlways := by
  refine returnsInTold_of_row (C := Tryf.checked) (s := spec) (by kernel_rfl) own started (by kernel_rfl) Tryf.func3
    (OpenSpec.witness_stopped_atRef (enc := enc) (C := Tryf.checked) false (World.doorLaid Tryf.prog 400 os) wargs rfl (by kernel_rfl) (by kernel_rfl) (by kernel_rfl) (witness_row os enc)) ?_
  intro F W base args ds gs before _ hF hval0 hW hcnd0 _ _ hL _
  have hval : ∀ (j : Nat) t v, Tryf.f3.params[j]? = some t → args[j]? = some v → Value.okWide Tryf.prog W .any base t v := hval0
  have hW' := hW
  obtain ⟨p, q, hA0, hV0, rfl, _, _⟩ := hW
  have hA : DataW.TrodAll enc Tryf.prog W 0 (fun _ => true) true Tryf.f3.params.toList args.toList ds p := hA0
  rw [Tryf.params3] at hA hval
  obtain ⟨v0, vs0, d0, ds0, p0, q0, hargs, rfl, rfl, h0, r0⟩ := trodAll_cons hA
  obtain ⟨v1, vs1, d1, ds1, p1, q1, rfl, rfl, rfl, h1, r1⟩ := trodAll_cons r0
  obtain ⟨rfl, rfl, rfl⟩ := trodAll_nil r1
  obtain rfl : args = #[v0, v1] := by cases args; simp_all
  obtain ⟨rfl, rfl⟩ := trodVars_none hV0
  have k0 := h0
  have k1 := h1
  have lt0 : ∀ x ∈ p0, x.block < W.heap.size := by obtain ⟨m, hm⟩ := k0; exact DataW.trod_lt m _ _ _ hm
  have lt1 : ∀ x ∈ p1, x.block < W.heap.size := by obtain ⟨m, hm⟩ := k1; exact DataW.trod_lt m _ _ _ hm
  obtain ⟨s, rfl, _, _, hs⟩ := Go.ChangeMaps.open_string Tryf.underlying9 (hval 0 9 v0 rfl rfl) h0
  obtain ⟨ao, n, c, zs, rfl, hn, hnil, hby⟩ := bytes_of (hval 1 22 v1 rfl rfl) h1
  have hL' : laidMet Tryf.prog laidL W := hL
  obtain ⟨a0, a1, s0, s1, c0, c1, t0, t1, hv0, hv1, hc0, _, _, hc1, _, _, hne, hb0, hb1⟩ := laid_sentinels2 (g0 := 0) (g1 := 1) hL' (by kernel_rfl) (by kernel_rfl) (by kernel_rfl) (by kernel_rfl) Tryf.underlying26 row51 Tryf.underlying51 Tryf.underlying53 rfl rfl Tryf.underlying9 (by kernel_rfl) (by kernel_rfl)
  have hg0 : W.cell? ⟨0, 0, none⟩ = some (.iface 51 (.pointer (some a0))) := by simpa using World.var?_cell gEOF hv0 0
  have hg1 : W.cell? ⟨1, 0, none⟩ = some (.iface 51 (.pointer (some a1))) := by simpa using World.var?_cell gUnx hv1 0
  have h2 : 2 ≤ W.heap.size := World.block_lt_of_cell? W _ hg1
  unfold maxLen at hs
  clear hA0 hV0 hval0
  refine (walk F.told s ao n c zs W a0 a1 c0 c1 t0 t1 hF (by omega) hn hnil hby ⟨hg0, hg1, hne, hb0, hb1, h2⟩).mono fun e W' ⟨he, bel⟩ => ?_
  subst he
  exact ⟨_, rfl, _, _, _, [], _, [], hW', trodAll_mk1 (shut_bool Tryf.underlying4 _), (trodAll_cons_mk (Below.trod laidOut (by kernel_rfl) (of_decide_eq_true (by kernel_rfl)) k0 bel lt0) (trodAll_cons_mk (Below.trod laidOut (by kernel_rfl) (of_decide_eq_true (by kernel_rfl)) k1 bel lt1) trodAll_mk0)), rfl, bel.frame _, fun h => by cases h⟩
end Go.Proofs.Qxb6618967aFmt
