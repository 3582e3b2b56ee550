/-
  THE WALK OF FnLoaderVarintRefusesCutAndStaysFailed.
-/
import Derived.Test.Qxb6618929aDoorHelp2
namespace Go.Proofs.Qxb6618929aDoor
open Go Go.RowKit

theorem StrsAt.below {w w' : World} {ao : Option Addr} {n : Nat} {ss : List ByteArray} (h : StrsAt w ao n ss) (hb : Below w.heap.size w w') : StrsAt w' ao n ss := by
  obtain ⟨h1, h2, h3, h4⟩ := h
  refine ⟨h1, h2, h3, fun h0 => ?_⟩
  obtain ⟨b, off, hlt, ha, hc⟩ := h4 h0
  exact ⟨b, off, Nat.lt_of_lt_of_le hlt hb.size, ha, fun i hi => (hb.cell (p := ⟨b, off + i, none⟩) hlt).trans (hc i hi)⟩

theorem cloneStrings (ao : Option Addr) (n c : Nat) (ss : List ByteArray) (w : World) (hn : n ≤ 1048576) (hnil : ao = none → n = 0 ∧ c = 0) (hs : StrsAt w ao n ss) :
    Calls Tryd.prog 7 #[.slice ao n c] w fun e w' => ∃ ho hc, e = .returned (.slice ho n hc) ∧ ho.isNone = ao.isNone ∧ StrsAt w' ho n ss ∧ Below w.heap.size w w' := by
  cases ao with
  | none =>
    obtain ⟨rfl, rfl⟩ := hnil rfl
    refine (cloneStrings_nil w).mono ?_
    rintro e w' ⟨rfl, rfl⟩
    exact ⟨none, 0, rfl, rfl, hs, Below.refl _ _⟩
  | some x =>
    refine (cloneStrings_some x n c ss w hn hs).mono ?_
    rintro e w' ⟨rfl, h1, h2, _⟩
    exact ⟨_, n, rfl, rfl, h1, h2⟩

/-- The bytes of an owned row, cut at k. -/
theorem bytesAt_cut {w : World} {B r n cap g k : Nat} {l : List UInt8} (ho : w.ownsRow B 5 1 (.slice (some ⟨g, 0, none⟩) n cap) n (Lib.byteCells l)) (hk : k ≤ n) (hr : g ≠ r) : BytesAt w r (.slice (some ⟨g, 0, none⟩) k cap) (l.take k) := by
  have hl : l.length = n := by have := ho.1; simpa [Lib.byteCells] using this
  have hcap : n ≤ cap := by
    rcases ho.2 with ⟨h, _⟩ | ⟨g', cap', cur, h, _, _, h2, _⟩
    · simp at h
    · simp only [Value.slice.injEq] at h
      omega
  have hlk : (l.take k).length = k := by simp; omega
  refine ⟨some ⟨g, 0, none⟩, cap, by rw [hlk], by omega, fun h0 => ⟨g, 0, hr, rfl, fun j hj => ?_⟩⟩
  rw [Nat.zero_add, ho.cellAt j (by omega)]
  have : j < l.length := by omega
  simp [Lib.byteCells, List.getElem?_eq_getElem this]

section
variable {t : TypeId} {x : Value}

set_option maxRecDepth 100000 in
set_option maxHeartbeats 1000000 in
theorem cut_walk (v k : Int) (ao : Option Addr) (n c : Nat) (ss : List ByteArray) (w : World) (h0 : -9223372036854775808 ≤ v) (h1 : v ≤ 9223372036854775807) (hn : n ≤ 9223372036854775807)
    (hnil : ao = none → n = 0 ∧ c = 0) (hs : StrsAt w ao n ss) (hg : w.cell? ⟨0, 0, none⟩ = some (.iface t x)) :
    Calls Tryd.prog 4 #[.int .i64 v, .int .i64 k, .slice ao n c] w fun e w' => e = .returned (.bool true) ∧ Below w.heap.size w w' := by
  have q23 : ∀ (w : World) (a : Option Addr) (n c n' c' : Nat), (binOp .neq 23 (.slice a n c) (.slice none n' c')).run Tryd.prog w = .ok (.bool (!a.isNone)) w := fun w a n c n' c' => run_neq_slice_nil_any w _ _ a n c n' c' Tryd.underlying23
  have h00 : 0 < w.heap.size := World.block_lt_of_cell? w _ hg
  have HS := hd hs
  have HN := hd hnil
  have HG := hd hg
  clear hs hnil hg
  have hvl := vb_len v h0 h1
  go_enter Tryd.func4, Tryd.ntmps4
  go_wp2_with fail
  refine (bytes15 v k ao n c ss _ hn HS.out).mono ?_
  rintro e w' ⟨⟨r, rfl, hr⟩, rfl⟩
  cases r
  · go_wp2
    go_ret
    exact ⟨rfl, Below.refl _ _⟩
  have hn1 := hr rfl
  clear hr
  go_wp2_with fail
  refine (varintBytes none 0 0 none 0 0 ao n c ss _ (by omega) (by omega) hn HS.out).mono ?_
  rintro e w' ⟨⟨z, rfl, hz0, hz1, hzy⟩, rfl⟩
  clear hzy
  by_cases hz : z ≤ 1048576
  · go_wp2_with fail
    refine (varintLen v _ h0 h1).mono ?_
    rintro e w' ⟨rfl, rfl⟩
    by_cases hk0 : k < 0
    · go_wp2_with fail
      go_ret
      exact ⟨rfl, Below.refl _ _⟩
    · by_cases hk1 : ((vb v).length : Int) ≤ k
      · go_wp2_with fail
        go_ret
        exact ⟨rfl, Below.refl _ _⟩
      · obtain ⟨q, rfl⟩ := Int.eq_ofNat_of_zero_le (show 0 ≤ k by omega)
        go_wp2_with fail
        refine (cloneStrings ao n c ss _ hn1 HN.out HS.out).mono ?_
        rintro e w1 ⟨ho, hc, rfl, hon, hst, hb1⟩
        have HST := hd hst
        have HB1 := hd hb1
        have HON := hd hon
        clear hst hb1 hon
        go_wp2_with fail
        refine (zzStorerVarint w1.heap.size 0 v h0 h1 (.slice none 0 0) [] w1 (World.ownsRow_nil _ _ _ _) (Nat.le_refl _) (by omega)).mono ?_
        rintro e w2 ⟨v', rfl, hown, hgr⟩
        obtain ⟨g, cap, hv, hBg, hgl⟩ := hown.form (by omega)
        rw [Nat.zero_add] at hv
        rw [List.nil_append, Nat.zero_add] at hown
        subst hv
        have hcap : (vb v).length ≤ cap := by
          rcases hown.2 with ⟨h, _⟩ | ⟨g', cap', cur, h, _, _, h2, _⟩
          · simp at h
          · simp only [Value.slice.injEq] at h
            omega
        have hnl : (((vb v).length : Int) != ((vb v).length : Int)) = false := by simp
        have hb2 : Below w.heap.size w w2 := HB1.out.trans ((grown_below hgr (Nat.le_refl _) (fun k h => by cases h)).mono HB1.out.size)
        have hst2 := HST.out.below (grown_below hgr (Nat.le_refl _) (fun k h => by cases h))
        -- the loader's block
        have hr0 : (w2.alloc (.cells #[.slice (some ⟨g, 0, none⟩) q cap, .slice ho n hc, .nilIface] 46)).heap[w2.heap.size]? = some (.cells #[.slice (some ⟨g, 0, none⟩) q cap, .slice ho n hc, .nilIface] 46 (0, 0)) := heap_alloc_new w2 _
        have hba : BytesAt (w2.alloc (.cells #[.slice (some ⟨g, 0, none⟩) q cap, .slice ho n hc, .nilIface] 46)) w2.heap.size (.slice (some ⟨g, 0, none⟩) q cap) ((vb v).take q) :=
          bytesAt_cut (hown.alloc _) (by omega) (by omega)
        have hg2 : (w2.alloc (.cells #[.slice (some ⟨g, 0, none⟩) q cap, .slice ho n hc, .nilIface] 46)).cell? ⟨0, 0, none⟩ = some (.iface t x) :=
          ((hb2.alloc hb2.size _).cell (p := ⟨0, 0, none⟩) h00).trans HG.out
        have HF1 := hd (zzLoaderVarint (varint_refuses hr0 (.inl ⟨rfl, hg2⟩) hba (dec_cut v h0 h1 q (by omega))))
        have HB2 := hd hb2
        have HST2 := hd hst2
        clear hown hgr hb2 hst2 hr0 hba hg2
        go_wp2_with fail
        refine (newLoader _ _ _ ⟨_, _, _, rfl⟩ ⟨_, _, _, rfl⟩).mono ?_
        rintro e w3 ⟨rfl, rfl⟩
        go_wp2_with fail
        refine HF1.out.mono ?_
        rintro e w3 ⟨rfl, hw3, hk3⟩
        have HW3 := hd hw3
        have HK3 := hd hk3
        clear hw3 hk3
        go_wp2_with (first | (go_at_call 11; refine (loaderFailed_yes HW3.out).mono ?_; rintro e w' ⟨rfl, h⟩; obtain rfl := h.symm) | (go_at_call 12; refine (loaderB HW3.out).mono ?_; rintro e w' ⟨rfl, h⟩; obtain rfl := h.symm))
        have hba2 : BytesAt w3 w2.heap.size (.slice none 0 0) [] := ⟨none, 0, rfl, by simp, fun h => by simp at h⟩
        refine (zzLoaderVarint (varint_refuses HW3.out (.inr rfl) hba2 dec_nil)).mono ?_
        rintro e w4 ⟨rfl, hw4, hk4⟩
        have HW4 := hd hw4
        have HK4 := hd hk4
        clear hw4 hk4 hba2
        go_wp2_with (first | (go_at_call 11; refine (loaderFailed_yes HW4.out).mono ?_; rintro e w' ⟨rfl, h⟩; obtain rfl := h.symm) | (go_at_call 12; refine (loaderB HW4.out).mono ?_; rintro e w' ⟨rfl, h⟩; obtain rfl := h.symm) | (go_at_call 14; refine (loaderStrings HW4.out).mono ?_; rintro e w' ⟨rfl, h⟩; obtain rfl := h.symm))
        have hk24 : Below w2.heap.size w2 w4 :=
          (((Below.refl _ w2).alloc (Nat.le_refl _) _).trans (HK3.out.below (by simp) (fun k _ e => by omega))).trans (HK4.out.below (by have := HK3.out.size; simp at this; omega) (fun k _ e => by omega))
        have hbw : Below w.heap.size w w4 := HB2.out.trans (hk24.mono HB2.out.size)
        refine (sameStrings ho ao n hc c ss w4 hn HON.out (HST2.out.below hk24) (HS.out.below hbw)).mono ?_
        rintro e w5 ⟨rfl, hb5⟩
        have HB5 := hd (hbw.trans (hb5.mono hbw.size))
        clear hb5 hbw hk24
        go_wp2
        go_ret
        exact ⟨rfl, HB5.out⟩
  · go_wp2
    go_ret
    exact ⟨rfl, Below.refl _ _⟩
end
end Go.Proofs.Qxb6618929aDoor
