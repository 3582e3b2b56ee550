/-
  THE ROW.
-/
import Derived.Test.Qxb6618929aLaw5
import Derived.Test.Qxb6618929aRows
import Derived.ChangeMaps5
namespace Go.Proofs.Qxb6618929a
open Go Go.ChangeShapes Go.WideShapes Go.ChangeAt Go.RowKit Go.Joins Go.Deep

theorem own5 : ownKnob Try.prog.godebug = none := by kernel_rfl
theorem laidOut5 : laidOutB Try.prog = true := by kernel_rfl

set_option maxRecDepth 100000 in
theorem lifted5 (os : Os) (started : os.Started) (H : Type) (enc : TypeId × Value → H) :
    ReturnsInHanded {} Try.checked os 5 .any (Rows.fnStoreStatesPrefixStableSpec.pre6 enc Try.prog Try.f5 Rows.fnStoreStatesPrefixStableRow.domain false) (Rows.fnStoreStatesPrefixStableSpec.post enc Try.prog Try.f5 false true false false) := by
  refine returnsInHanded_of_change (C := Try.checked) own5 started (by kernel_rfl) Try.func5
    (ChangeSpec.witness6 (enc := enc) (C := Try.checked) false ⟨#[], #[.slice none 0 0, .slice none 0 0, .int .i64 0], []⟩ 8 (by kernel_rfl) (by kernel_rfl) (by kernel_rfl) (by kernel_rfl)) ?_
  intro W base args ds gs before hval0 hW hcnd _
  have hval : ∀ (j : Nat) t v, Try.f5.params[j]? = some t → args[j]? = some v → Value.okWide Try.prog W .any base t v := hval0
  have hW' := hW
  obtain ⟨p, q, hA0, hV, rfl, hfz, hnd⟩ := hW
  have hA : DataW.TrodAll enc Try.prog W 0 (fun _ => true) true Try.f5.params.toList args.toList ds p := hA0
  rw [Try.params5] at hA hval
  obtain ⟨v0, vs0, d0, ds0, p0, q0, hargs, rfl, rfl, h0, r0⟩ := trodAll_cons hA
  obtain ⟨v1, vs1, d1, ds1, p1, q1, rfl, rfl, rfl, h1, r1⟩ := trodAll_cons r0
  obtain ⟨v2, vs2, d2, ds2, p2, q2, rfl, rfl, rfl, h2, r2⟩ := trodAll_cons r1
  obtain ⟨rfl, rfl, rfl⟩ := trodAll_nil r2
  obtain rfl : args = #[v0, v1, v2] := by cases args; simp_all
  obtain ⟨rfl, rfl⟩ := trodVars_none hV
  have k0 := h0
  have k1 := h1
  have k2 := h2
  have lt0 : ∀ x ∈ p0, x.block < W.heap.size := by obtain ⟨m, hm⟩ := k0; exact DataW.trod_lt m _ _ _ hm
  have lt1 : ∀ x ∈ p1, x.block < W.heap.size := by obtain ⟨m, hm⟩ := k1; exact DataW.trod_lt m _ _ _ hm
  have lt2 : ∀ x ∈ p2, x.block < W.heap.size := by obtain ⟨m, hm⟩ := k2; exact DataW.trod_lt m _ _ _ hm
  obtain ⟨a0, n0, c0, hv0⟩ := okWide_slice Try.underlying36 (hval 0 36 v0 rfl rfl)
  obtain ⟨bs, hbs, hbl⟩ : ∃ o, CardsAt W (In W) v0 o ∧ (o.getD []).length ≤ 9223372036854775807 := by
    obtain ⟨fuel, hf⟩ := h0
    exact bytes_of (by simpa [hv0, Value.cells] using hf)
  obtain ⟨a1, n1, c1, hv1⟩ := okWide_slice Try.underlying37 (hval 1 37 v1 rfl rfl)
  obtain ⟨ao, cap, zs, rfl, hn, hc, hz, hzl, hlen, hr⟩ : ∃ (ao : Option Addr) (cap : Nat) (zs : List ZIn), v1 = .slice ao zs.length cap ∧ (ao = none → cap = 0) ∧ zs.length ≤ cap ∧ ZsAt W (In W) v1 zs ∧ zs.length ≤ 9223372036854775807 ∧ (∀ z ∈ zs, ZLen z) ∧ ∀ z ∈ zs, ZRange z := by
    obtain ⟨fuel, hf⟩ := h1
    exact states_of (by simpa [hv1, Value.cells] using hf)
  obtain ⟨kk, rfl, rfl, rfl, wk⟩ := open_int Try.underlying3 (hval 2 3 v2 rfl rfl) h2
  have hw := law5 v0 ao cap kk bs zs W hbs hbl hn hc hz hzl hlen hr (bounds_i64 wk)
  clear hA0 hval0
  refine hw.mono fun e W' ⟨he, bel⟩ => ?_
  subst he
  exact ⟨_, rfl, _, _, _, [], _, [], hW', trodAll_mk1 (shut_bool Try.underlying4 _), (trodAll_cons_mk (Below.trod laidOut5 (by kernel_rfl) (of_decide_eq_true (by kernel_rfl)) k0 bel lt0) (trodAll_cons_mk (Below.trod laidOut5 (by kernel_rfl) (of_decide_eq_true (by kernel_rfl)) k1 bel lt1) (trodAll_cons_mk (Below.trod laidOut5 (by kernel_rfl) (of_decide_eq_true (by kernel_rfl)) k2 bel lt2) trodAll_mk0))), rfl, bel.frame _, fun h => by cases h⟩

theorem over5 : Rows.fnStoreStatesPrefixStableRow.holds Try.pinned (OpenSpec.ofChange Rows.fnStoreStatesPrefixStableSpec) :=
  OpenClaim.holds_of_wide 5 Try.f5 rfl rfl rfl rfl rfl rfl rfl ⟨rfl, rfl, rfl, rfl, rfl⟩ rfl rfl rfl rfl rfl (by kernel_rfl) Try.func5 (by kernel_rfl)
    (of_decide_eq_true (by kernel_rfl)) (by unfold Func.isWrapper; first | (rw [if_pos (by decide +kernel)]; kernel_rfl) | (rw [if_neg (by decide +kernel)]; exact ⟨rfl, rfl⟩))
    (fun os started H enc _ => lifted5 os started H enc)

/-- THE STATEMENT -/
theorem prefix_proved : Rows.FnStoreStatesPrefixStableSaid := over5
end Go.Proofs.Qxb6618929a
