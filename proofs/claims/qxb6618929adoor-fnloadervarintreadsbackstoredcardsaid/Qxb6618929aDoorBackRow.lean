/-
  THE ROW AND THE CARD OF FnLoaderVarintReadsBackStored.
-/
import Derived.Test.Qxb6618929aDoorBack
import Derived.Test.Qxb6618929aDoorFrame
import Derived.Test.Qxb6618929aDoorTie
import Derived.Test.Qxb6618929aDoorCards
import Derived.SevenTiedAt
namespace Go.Proofs.Qxb6618929aDoor
open Go Go.ChangeShapes Go.WideShapes Go.ChangeAt Go.RowKit

/-- A slice of integers that came in: its address, its numbers. -/
theorem ints_of {H : Type} {enc : TypeId × Value → H} {W : World} {k : IntKind} {t e : TypeId} {v : Value} {d : DataW H} {p : List MemPlace} {base : Nat} (ht : Tryd.prog.underlying t = some (.slice e)) (he : Tryd.prog.underlying e = some (.int k)) (hc : Tryd.prog.cellsOf e = 1)
    (hv : Value.okWide Tryd.prog W .any base t v) (h : DataW.Trod enc Tryd.prog W 0 (fun _ => true) true t v d p) :
    ∃ (ao : Option Addr) (n c : Nat) (zs : List Int), v = .slice ao n c ∧ n ≤ 9223372036854775807 ∧ (ao = none → n = 0 ∧ c = 0) ∧ zs.length = n ∧ (∀ z ∈ zs, (Lit.int k z).wf = true) ∧
      (0 < n → ∃ b off, b < W.heap.size ∧ ao = some ⟨b, off, none⟩ ∧ ∀ i, i < n → W.cell? ⟨b, off + i, none⟩ = some (.int k (zs.getD i 0))) := by
  obtain ⟨ao, n, c, rfl⟩ := okWide_slice ht hv
  obtain ⟨fuel, hf⟩ := h
  rcases open_ints ht he hc hf with ⟨hcs, _⟩ | ⟨x, l, cp, zs, hcs, _, hl, hm, hz, _, hcell, hwz⟩
  · simp [Value.cells] at hcs
    obtain ⟨rfl, rfl, rfl⟩ := hcs
    exact ⟨none, 0, 0, [], rfl, by omega, fun _ => ⟨rfl, rfl⟩, rfl, by simp, fun h => by omega⟩
  · simp [Value.cells] at hcs
    obtain ⟨rfl, rfl, rfl⟩ := hcs
    unfold maxLen at hm
    have hz' : zs.length = c := by simpa using hz
    refine ⟨some x, n, c, zs.take n, rfl, by omega, fun h => (by cases h), (by simp; omega), fun z hz => hwz z (List.mem_of_mem_take hz), fun h0 => ?_⟩
    obtain ⟨b, off, spot⟩ := x
    have hc0 := hcell 0 (by omega)
    have hspot : spot = none := by simpa [Addr.add] using World.cell?_spot hc0
    subst hspot
    refine ⟨b, off, ?_, rfl, fun i hi => ?_⟩
    · have := World.block_lt_of_cell? W _ hc0
      simpa [Addr.add] using this
    · have h1 := hcell i (by omega)
      rw [Addr.add_lit] at h1
      rw [h1]
      simp [List.getD, hi]

set_option maxRecDepth 100000 in
theorem back_lifted (os : Os) (started : os.Started) (H : Type) (enc : TypeId × Value → H) :
    ReturnsInHanded {} Tryd.checked os 3 .any (fun w args => (Rows.fnLoaderVarintReadsBackStoredSpec.pre enc Tryd.prog Tryd.f3 [] false w args ∧ laidMetH Tryd.prog laidL w) ∧ sizedMet enc Tryd.prog Tryd.f3 (OpenSpec.ofChange Rows.fnLoaderVarintReadsBackStoredSpec) false w args)
      (Rows.fnLoaderVarintReadsBackStoredSpec.post enc Tryd.prog Tryd.f3 false true false false) := by
  refine returnsInHanded_of_change_and (C := Tryd.checked) (X := fun w _ => laidMetH Tryd.prog laidL w) (fun _ _ _ hh h => h.of_heap hh) own started (by kernel_rfl) Tryd.func3
    (ChangeSpec.witness_shaped (enc := enc) (C := Tryd.checked) (os := os) (X := fun w _ => laidMetH Tryd.prog laidL w) false (World.doorLaid Tryd.prog 400 os) #[.slice none 0 0, .slice none 0 0, .slice none 0 0] 8 rfl (World.shaped_of_RefB (by kernel_rfl) (by kernel_rfl)) (by kernel_rfl) (by kernel_rfl) (by kernel_rfl) (door_met os _)) ?_
  intro W base args ds gs before hval0 hW _ _ hL _
  have hval : ∀ (j : Nat) t v, Tryd.f3.params[j]? = some t → args[j]? = some v → Value.okWide Tryd.prog W .any base t v := hval0
  have hW' := hW
  obtain ⟨p, q, hA0, hV0, rfl, hfz, hnd⟩ := hW
  have hA : DataW.TrodAll enc Tryd.prog W 0 (fun _ => true) true Tryd.f3.params.toList args.toList ds p := hA0
  have hV : DataW.TrodVars enc Tryd.prog W (fun _ => true) [errName] gs q := hV0
  rw [Tryd.params3] at hA hval
  obtain ⟨v0, v1, v2, d0, d1, d2, p0, p1, p2, rfl, rfl, rfl, h0, h1, h2⟩ := trodAll_three hA
  obtain ⟨te, xe, hve, hce⟩ := of_laid hL
  obtain ⟨rfl, rfl⟩ := hV.unique (vars_read1 enc gErr tErr Tryd.underlying44 hve trivial _)
  have k0 := h0
  have k1 := h1
  have k2 := h2
  have lt0 : ∀ x ∈ p0, x.block < W.heap.size := by obtain ⟨m, hm⟩ := k0; exact DataW.trod_lt m _ _ _ hm
  have lt1 : ∀ x ∈ p1, x.block < W.heap.size := by obtain ⟨m, hm⟩ := k1; exact DataW.trod_lt m _ _ _ hm
  have lt2 : ∀ x ∈ p2, x.block < W.heap.size := by obtain ⟨m, hm⟩ := k2; exact DataW.trod_lt m _ _ _ hm
  obtain ⟨a1, n1, c1, zs, rfl, hn1, hnil1, hl1, hw1, hc1⟩ := ints_of Tryd.underlying22 Tryd.underlying2 (by kernel_rfl) (hval 0 22 v0 rfl rfl) h0
  obtain ⟨a2, n2, c2, ys, rfl, hn2, hnil2, hl2, hw2, hc2⟩ := ints_of Tryd.underlying23 Tryd.underlying5 (by kernel_rfl) (hval 1 23 v1 rfl rfl) h1
  obtain ⟨ao, n, c, ss, rfl, hn, hnil, hss⟩ := strs_of (hval 2 24 v2 rfl rfl) h2
  clear hA0 hV0 hval0
  have hnums : NumsAt W a1 n1 zs := ⟨hl1, fun z hz => bounds_i64 (hw1 z hz), hc1⟩
  have hbytes : BytesIn W a2 n2 (ys.map fun z => z.toNat.toUInt8) := by
    refine ⟨by simpa using hl2, fun h => (hnil2 h).1, fun h0 => ?_⟩
    obtain ⟨b, off, hb, ha, hc⟩ := hc2 h0
    refine ⟨b, off, hb, ha, fun i hi => ?_⟩
    have hi' : i < ys.length := by simpa using hi
    rw [hc i (by omega)]
    have bd := bounds_u8 (hw2 ys[i] (List.getElem_mem _))
    rw [List.getElem_map, Lib.toUInt8_toNat (by omega), List.getD, List.getElem?_eq_getElem hi', Option.getD_some, Int.toNat_of_nonneg bd.1]
  refine (back_walk a1 n1 c1 zs a2 n2 c2 _ ao n c ss W hn1 hn2 hn hnums hbytes hnil2 hnil hss).mono fun e W' ⟨he, bel⟩ => ?_
  subst he
  have h00 : 0 < W.heap.size := World.block_lt_of_cell? W _ hce
  refine ⟨_, rfl, _, _, _, [], _, [.cell 0 0], hW', trodAll_mk1 (shut_bool Tryd.underlying4 _), trodAll_mk3 (Below.trod laidOut (by kernel_rfl) (of_decide_eq_true (by kernel_rfl)) k0 bel lt0) (Below.trod laidOut (by kernel_rfl) (of_decide_eq_true (by kernel_rfl)) k1 bel lt1) (Below.trod laidOut (by kernel_rfl) (of_decide_eq_true (by kernel_rfl)) k2 bel lt2),
    vars_read1 enc gErr tErr Tryd.underlying44 (var?_below bel gErr h00 hve) trivial _, bel.frame _, fun h => by cases h⟩

theorem back_row : Rows.FnLoaderVarintReadsBackStoredSaid :=
  OpenClaim.holds_of_wide 3 Tryd.f3 rfl rfl rfl rfl rfl rfl rfl ⟨rfl, rfl, rfl, rfl, rfl⟩ rfl rfl rfl rfl rfl (by kernel_rfl) Tryd.func3 (by kernel_rfl)
    (of_decide_eq_true (by kernel_rfl)) (by unfold Func.isWrapper; first | (rw [if_pos (by decide +kernel)]; kernel_rfl) | (rw [if_neg (by decide +kernel)]; exact ⟨rfl, rfl⟩))
    (fun os started H enc _ => back_lifted os started H enc)

/-- THE CARD -/
theorem back_card : Rows.FnLoaderVarintReadsBackStoredCardSaid :=
  Claim7.holds_tied_plain_at .later [] [.sentinel] true Rows.fnLoaderVarintReadsBackStoredCard.stood.harness false
    back_row (fun _ h => by cases h) (by kernel_rfl) (fun _ h => by cases h) fnLoaderVarintReadsBackStored_row_tie rfl ⟨rfl, rfl⟩ (by kernel_rfl) rfl
    (fun f fn hf hfn => by
      obtain rfl : f = 3 := Option.some.inj ((show Tryd.prog.funcNamed Rows.fnLoaderVarintReadsBackStoredRow.func = some 3 by kernel_rfl).symm.trans hf) |>.symm
      obtain rfl : fn = Tryd.f3 := (Option.some.inj (Tryd.func3.symm.trans hfn)).symm
      exact ⟨by kernel_rfl, fun j t ht => by
        rw [Tryd.params3] at ht
        have hm : t ∈ [22, 23, 24] := by simpa using Array.mem_of_getElem? ht
        have hall : ([22, 23, 24].all fun u => !Tryd.prog.wantsStandIn u) = true := by kernel_rfl
        exact (show Tryd.prog.wantsStandIn t = false by simpa using List.all_eq_true.1 hall t hm)⟩)
    (by kernel_rfl)
end Go.Proofs.Qxb6618929aDoor
