/-
  THE ROW.
-/
import Derived.Test.Qxb6618872aFrame
import Derived.ChangeMaps5
namespace Go.Proofs.Qxb6618872a
open Go Go.ChangeShapes Go.WideShapes Go.ChangeAt Go.RowKit Go.Joins Go.Deep

set_option maxRecDepth 100000 in
theorem lifted (os : Os) (started : os.Started) (H : Type) (enc : TypeId × Value → H) :
    ReturnsInHanded {} Try.checked os 3 .any (Rows.fnLoginsOneMoreRoleAddsItsAllowsAndTakesItsDeniesSpec.pre6 enc Try.prog Try.f3 Rows.fnLoginsOneMoreRoleAddsItsAllowsAndTakesItsDeniesRow.domain false) (Rows.fnLoginsOneMoreRoleAddsItsAllowsAndTakesItsDeniesSpec.post enc Try.prog Try.f3 false true false false) := by
  refine returnsInHanded_of_change (C := Try.checked) own started (by kernel_rfl) Try.func3
    (ChangeSpec.witness6 (enc := enc) (C := Try.checked) false ⟨#[], #[.slice none 0 0, .string ⟨#[]⟩, .agg #[.string ⟨#[]⟩, .slice none 0 0, .slice none 0 0]], []⟩ 8 (by kernel_rfl) (by kernel_rfl) (by kernel_rfl) (by kernel_rfl)) ?_
  intro W base args ds gs before hval0 hW hcnd _
  have hval : ∀ (j : Nat) t v, Try.f3.params[j]? = some t → args[j]? = some v → Value.okWide Try.prog W .any base t v := hval0
  have hW' := hW
  obtain ⟨p, q, hA0, hV, rfl, hfz, hnd⟩ := hW
  have hA : DataW.TrodAll enc Try.prog W 0 (fun _ => true) true Try.f3.params.toList args.toList ds p := hA0
  rw [Try.params3] at hA hval
  obtain ⟨v0, vs0, d0, ds0, p0, q0, hargs, rfl, rfl, h0, r0⟩ := trodAll_cons hA
  obtain ⟨v1, vs1, d1, ds1, p1, q1, rfl, rfl, rfl, h1, r1⟩ := trodAll_cons r0
  obtain ⟨v2, vs2, d2, ds2, p2, q2, rfl, rfl, rfl, h2, r2⟩ := trodAll_cons r1
  obtain ⟨rfl, rfl, rfl⟩ := trodAll_nil r2
  obtain rfl : args = #[v0, v1, v2] := by cases args; simp_all
  obtain ⟨rfl, rfl⟩ := trodVars_none hV
  have k0 := h0
  have k1 := h1
  have k2 := h2
  have lt0 : ∀ x ∈ p0, x.block < W.heap.size := by obtain ⟨m, hm⟩ := k0; exact DataW.trod_lt m _ _ _ hm
  have lt1 : ∀ x ∈ p1, x.block < W.heap.size := by obtain ⟨m, hm⟩ := k1; exact DataW.trod_lt m _ _ _ hm
  have lt2 : ∀ x ∈ p2, x.block < W.heap.size := by obtain ⟨m, hm⟩ := k2; exact DataW.trod_lt m _ _ _ hm
  obtain ⟨ao, n, c, hv0⟩ := okWide_slice Try.underlying22 (hval 0 22 v0 rfl rfl)
  obtain ⟨ao, n, c, rs, rfl, hn, hs⟩ : ∃ (ao : Option Addr) (n c : Nat) (rs : List RIn), v0 = .slice ao n c ∧ n ≤ maxLen ∧ RolesAt W ao n rs := by
    obtain ⟨fuel, hf⟩ := h0
    exact roles_of (by simpa [hv0, Value.cells] using hf)
  obtain ⟨pk, rfl, _, _, hpk⟩ := Go.ChangeMaps.open_string Try.underlying9 (hval 1 9 v1 rfl rfl) h1
  obtain ⟨c0, c1, c2, y0, y1, y2, m, rfl, _, _, g0, g1, g2⟩ := open_agg3 Try.underlying25 (by kernel_rfl) cells25 (hval 2 25 v2 rfl rfl) h2
  obtain ⟨x, hx, hok⟩ := role_of g0 g1 g2
  have hw := walk ao n c rs pk x W hn hs hpk hok
  rw [hx] at hw
  clear hA0 hval0
  refine hw.mono fun e W' ⟨he, hg⟩ => ?_
  have bel := grown_below hg
  subst he
  exact ⟨_, rfl, _, _, _, [], _, [], hW', trodAll_mk1 (shut_bool Try.underlying4 _), (trodAll_cons_mk (Below.trod laidOut (by kernel_rfl) (of_decide_eq_true (by kernel_rfl)) k0 bel lt0) (trodAll_cons_mk (Below.trod laidOut (by kernel_rfl) (of_decide_eq_true (by kernel_rfl)) k1 bel lt1) (trodAll_cons_mk (Below.trod laidOut (by kernel_rfl) (of_decide_eq_true (by kernel_rfl)) k2 bel lt2) trodAll_mk0))), rfl, bel.frame _, fun h => by cases h⟩

theorem over : Rows.fnLoginsOneMoreRoleAddsItsAllowsAndTakesItsDeniesRow.holds Try.pinned (OpenSpec.ofChange Rows.fnLoginsOneMoreRoleAddsItsAllowsAndTakesItsDeniesSpec) :=
  OpenClaim.holds_of_wide 3 Try.f3 rfl rfl rfl rfl rfl rfl rfl ⟨rfl, rfl, rfl, rfl, rfl⟩ rfl rfl rfl rfl rfl (by kernel_rfl) Try.func3 (by kernel_rfl)
    (of_decide_eq_true (by kernel_rfl)) (by unfold Func.isWrapper; first | (rw [if_pos (by decide +kernel)]; kernel_rfl) | (rw [if_neg (by decide +kernel)]; exact ⟨rfl, rfl⟩))
    (fun os started H enc _ => lifted os started H enc)

/-- THE STATEMENT -/
theorem logins_proved : Rows.FnLoginsOneMoreRoleAddsItsAllowsAndTakesItsDeniesSaid := over
end Go.Proofs.Qxb6618872a
