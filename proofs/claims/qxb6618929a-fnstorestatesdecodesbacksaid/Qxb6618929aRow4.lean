/-
  THE ROW.
-/
import Derived.Test.Qxb6618929aLaw4
import Derived.Test.Qxb6618929aRows
import Derived.ChangeMaps5
namespace Go.Proofs.Qxb6618929a
open Go Go.ChangeShapes Go.WideShapes Go.ChangeAt Go.RowKit Go.Joins Go.Deep

theorem own4 : ownKnob Try.prog.godebug = none := by kernel_rfl
theorem laidOut4 : laidOutB Try.prog = true := by kernel_rfl

set_option maxRecDepth 100000 in
theorem lifted4 (os : Os) (started : os.Started) (H : Type) (enc : TypeId × Value → H) :
    ReturnsInHanded {} Try.checked os 4 .any (Rows.fnStoreStatesDecodesBackSpec.pre6 enc Try.prog Try.f4 Rows.fnStoreStatesDecodesBackRow.domain false) (Rows.fnStoreStatesDecodesBackSpec.post enc Try.prog Try.f4 false true false false) := by
  refine returnsInHanded_of_change (C := Try.checked) own4 started (by kernel_rfl) Try.func4
    (ChangeSpec.witness6 (enc := enc) (C := Try.checked) false ⟨#[], #[.slice none 0 0, .slice none 0 0], []⟩ 8 (by kernel_rfl) (by kernel_rfl) (by kernel_rfl) (by kernel_rfl)) ?_
  intro W base args ds gs before hval0 hW hcnd _
  have hval : ∀ (j : Nat) t v, Try.f4.params[j]? = some t → args[j]? = some v → Value.okWide Try.prog W .any base t v := hval0
  have hW' := hW
  obtain ⟨p, q, hA0, hV, rfl, hfz, hnd⟩ := hW
  have hA : DataW.TrodAll enc Try.prog W 0 (fun _ => true) true Try.f4.params.toList args.toList ds p := hA0
  rw [Try.params4] at hA hval
  obtain ⟨v0, vs0, d0, ds0, p0, q0, hargs, rfl, rfl, h0, r0⟩ := trodAll_cons hA
  obtain ⟨v1, vs1, d1, ds1, p1, q1, rfl, rfl, rfl, h1, r1⟩ := trodAll_cons r0
  obtain ⟨rfl, rfl, rfl⟩ := trodAll_nil r1
  obtain rfl : args = #[v0, v1] := by cases args; simp_all
  obtain ⟨rfl, rfl⟩ := trodVars_none hV
  have k0 := h0
  have k1 := h1
  have lt0 : ∀ x ∈ p0, x.block < W.heap.size := by obtain ⟨m, hm⟩ := k0; exact DataW.trod_lt m _ _ _ hm
  have lt1 : ∀ x ∈ p1, x.block < W.heap.size := by obtain ⟨m, hm⟩ := k1; exact DataW.trod_lt m _ _ _ hm
  obtain ⟨a0, n0, c0, hv0⟩ := okWide_slice Try.underlying36 (hval 0 36 v0 rfl rfl)
  obtain ⟨bs, hbs, hbl⟩ : ∃ o, CardsAt W (In W) v0 o ∧ (o.getD []).length ≤ 9223372036854775807 := by
    obtain ⟨fuel, hf⟩ := h0
    exact bytes_of (by simpa [hv0, Value.cells] using hf)
  obtain ⟨a1, n1, c1, hv1⟩ := okWide_slice Try.underlying37 (hval 1 37 v1 rfl rfl)
  obtain ⟨ao, cap, zs, rfl, _, _, hz, hzl, hlen, hr⟩ : ∃ (ao : Option Addr) (cap : Nat) (zs : List ZIn), v1 = .slice ao zs.length cap ∧ (ao = none → cap = 0) ∧ zs.length ≤ cap ∧ ZsAt W (In W) v1 zs ∧ zs.length ≤ 9223372036854775807 ∧ (∀ z ∈ zs, ZLen z) ∧ ∀ z ∈ zs, ZRange z := by
    obtain ⟨fuel, hf⟩ := h1
    exact states_of (by simpa [hv1, Value.cells] using hf)
  have hw := law4 v0 ao cap bs zs W hbs hbl hz hzl hlen hr
  clear hA0 hval0
  refine hw.mono fun e W' ⟨he, bel⟩ => ?_
  subst he
  exact ⟨_, rfl, _, _, _, [], _, [], hW', trodAll_mk1 (shut_bool Try.underlying4 _), (trodAll_cons_mk (Below.trod laidOut4 (by kernel_rfl) (of_decide_eq_true (by kernel_rfl)) k0 bel lt0) (trodAll_cons_mk (Below.trod laidOut4 (by kernel_rfl) (of_decide_eq_true (by kernel_rfl)) k1 bel lt1) trodAll_mk0)), rfl, bel.frame _, fun h => by cases h⟩

theorem over4 : Rows.fnStoreStatesDecodesBackRow.holds Try.pinned (OpenSpec.ofChange Rows.fnStoreStatesDecodesBackSpec) :=
  OpenClaim.holds_of_wide 4 Try.f4 rfl rfl rfl rfl rfl rfl rfl ⟨rfl, rfl, rfl, rfl, rfl⟩ rfl rfl rfl rfl rfl (by kernel_rfl) Try.func4 (by kernel_rfl)
    (of_decide_eq_true (by kernel_rfl)) (by unfold Func.isWrapper; first | (rw [if_pos (by decide +kernel)]; kernel_rfl) | (rw [if_neg (by decide +kernel)]; exact ⟨rfl, rfl⟩))
    (fun os started H enc _ => lifted4 os started H enc)

/-- THE STATEMENT -/
theorem back_proved : Rows.FnStoreStatesDecodesBackSaid := over4
end Go.Proofs.Qxb6618929a
