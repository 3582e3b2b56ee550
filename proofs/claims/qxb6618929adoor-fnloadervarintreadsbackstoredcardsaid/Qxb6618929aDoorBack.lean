/-
  THE WALK OF FnLoaderVarintReadsBackStored.
-/
import Derived.Test.Qxb6618929aDoorCut
import Derived.Laws.AppendOwnNone
namespace Go.Proofs.Qxb6618929aDoor
open Go Go.RowKit

/-- zzBytes.. of the first law: true only where the three lengths are at most 1048576. -/
theorem bytes5 (a1 : Option Addr) (n1 c1 : Nat) (a2 : Option Addr) (n2 c2 : Nat) (ao : Option Addr) (n c : Nat) (ss : List ByteArray) (w : World)
    (h1 : n1 ≤ 9223372036854775807) (h2 : n2 ≤ 9223372036854775807) (hn : n ≤ 9223372036854775807) (hs : StrsAt w ao n ss) :
    Calls Tryd.prog 5 #[.slice a1 n1 c1, .slice a2 n2 c2, .slice ao n c] w fun e w' => SaysB e (n1 ≤ 1048576 ∧ n2 ≤ 1048576 ∧ n ≤ 1048576) ∧ w = w' := by
  obtain ⟨hl, hnil, hsz, hcell⟩ := hs
  by_cases hall : n1 + n2 + n ≤ 1048576
  · by_cases h0 : 0 < n
    · obtain ⟨b, off, hb, rfl, hcl⟩ := hcell h0
      go_enter Tryd.func5, Tryd.ntmps5
      go_wp2
      go_loop [7, 8] (fun t i => ∃ (k : Nat) (z : Int), k ≤ n ∧ i = .int .i64 k ∧ t = .int .i64 z ∧ 0 ≤ z ∧ z ≤ 1048576) (fun _ i => n - (intOf i).toNat)
      case atStart => exact ⟨0, _, Nat.zero_le _, rfl, rfl, by omega, by omega⟩
      case round =>
        obtain ⟨k, z, hk, rfl, rfl, hz0, hz1⟩ := hrel
        by_cases hlt : k < n
        · have hc := hcl k hlt
          have hss := hsz k hlt
          clear hcl hcell hsz
          generalize ss.getD k ByteArray.empty = s at hc hss
          go_wp2
          · go_ret
            exact ⟨⟨false, rfl, by simp⟩, rfl⟩
          · go_ret
            exact ⟨⟨false, rfl, by simp⟩, rfl⟩
          · go_round
            case rel => exact ⟨k + 1, _, by omega, by go_num, rfl, by omega, by omega⟩
            case measure => simp [intOf]; omega
        · go_wp2
          go_ret
          exact ⟨⟨true, rfl, fun _ => by omega⟩, rfl⟩
    · have h00 : n = 0 := by omega
      subst h00
      clear hcell
      go_enter Tryd.func5, Tryd.ntmps5
      go_wp2
      refine wp_loop_rounds 1 ?_
      rw [rounds_succ]
      go_wp2
      go_ret
      exact ⟨⟨true, rfl, fun _ => by omega⟩, rfl⟩
  · clear hcell
    have hq : (1048576 : Int) < (n1 : Int) + (n2 : Int) + (n : Int) := by omega
    go_enter Tryd.func5, Tryd.ntmps5
    go_wp2
    all_goals
      go_ret
      exact ⟨⟨false, rfl, by simp⟩, rfl⟩

/-- The varints of a list of numbers, one behind the other. -/
def encs (zs : List Int) : List UInt8 := zs.flatMap vb
def I64 (z : Int) : Prop := -9223372036854775808 ≤ z ∧ z ≤ 9223372036854775807

theorem encs_len (zs : List Int) (h : ∀ z ∈ zs, I64 z) : (encs zs).length ≤ 10 * zs.length := by
  induction zs with
  | nil => simp [encs]
  | cons z zs ih =>
    have h1 := (vb_len z (h z (by simp)).1 (h z (by simp)).2).2
    have h2 := ih (fun y hy => h y (by simp [hy]))
    simp only [encs, List.flatMap_cons, List.length_append, List.length_cons] at h2 ⊢
    omega

theorem encs_snoc (zs : List Int) (k : Nat) (hk : k < zs.length) : encs (zs.take (k + 1)) = encs (zs.take k) ++ vb (zs.getD k 0) := by
  unfold encs
  rw [List.take_succ_eq_append_getElem hk, List.flatMap_append]
  simp [List.getD, hk]

theorem encs_drop (zs : List Int) (k : Nat) (hk : k < zs.length) : encs (zs.drop k) = vb (zs.getD k 0) ++ encs (zs.drop (k + 1)) := by
  unfold encs
  rw [List.drop_eq_getElem_cons hk, List.flatMap_cons]
  simp [List.getD, hk]

/-- The numbers that a slice of int64 holds; the bytes that a slice of bytes holds. -/
def NumsAt (w : World) (ao : Option Addr) (n : Nat) (zs : List Int) : Prop :=
  zs.length = n ∧ (∀ z ∈ zs, I64 z) ∧ (0 < n → ∃ b off, b < w.heap.size ∧ ao = some ⟨b, off, none⟩ ∧ ∀ i, i < n → w.cell? ⟨b, off + i, none⟩ = some (.int .i64 (zs.getD i 0)))
def BytesIn (w : World) (ao : Option Addr) (n : Nat) (l : List UInt8) : Prop :=
  l.length = n ∧ (ao = none → n = 0) ∧ (0 < n → ∃ b off, b < w.heap.size ∧ ao = some ⟨b, off, none⟩ ∧ ∀ i (hi : i < l.length), w.cell? ⟨b, off + i, none⟩ = some (.int .u8 (l[i]).toNat))

theorem byteCells_len (l : List UInt8) : (Lib.byteCells l).length = l.length := by simp [Lib.byteCells]

/-- A whole owned row as the loader's bytes. -/
theorem bytesAt_own {w : World} {B r n : Nat} {v : Value} {l : List UInt8} (ho : w.ownsRow B 5 1 v n (Lib.byteCells l)) (hr : w.heap.size ≤ r) : BytesAt w r v l := by
  have hl : l.length = n := by have := ho.1; simpa [byteCells_len] using this
  rcases ho.2 with ⟨rfl, rfl⟩ | ⟨g, cap, cur, rfl, _, hg, hcap, _⟩
  · have : l = [] := List.eq_nil_of_length_eq_zero hl
    subst this
    exact ⟨none, 0, rfl, by simp, fun h => by simp at h⟩
  · refine ⟨some ⟨g, 0, none⟩, cap, by rw [hl], by omega, fun h0 => ⟨g, 0, by have := lt_heap hg; omega, rfl, fun j hj => ?_⟩⟩
    rw [Nat.zero_add, ho.cellAt j (by omega)]
    simp [Lib.byteCells, List.getElem?_eq_getElem hj]

theorem BytesAt.kept {w w' : World} {r : Nat} {v : Value} {l : List UInt8} (h : BytesAt w r v l) (hk : ∀ g o x, g ≠ r → w.cell? ⟨g, o, none⟩ = some x → w'.cell? ⟨g, o, none⟩ = some x) : BytesAt w' r v l := by
  obtain ⟨ao, c, hv, hc, hx⟩ := h
  refine ⟨ao, c, hv, hc, fun h0 => ?_⟩
  obtain ⟨g, o, hg, ha, hcl⟩ := hx h0
  exact ⟨g, o, hg, ha, fun j hj => hk g (o + j) _ hg (hcl j hj)⟩

set_option maxRecDepth 100000 in
set_option maxHeartbeats 1000000 in
theorem back_walk (a1 : Option Addr) (n1 c1 : Nat) (zs : List Int) (a2 : Option Addr) (n2 c2 : Nat) (tl : List UInt8) (ao : Option Addr) (n c : Nat) (ss : List ByteArray) (w : World)
    (h1 : n1 ≤ 9223372036854775807) (h2 : n2 ≤ 9223372036854775807) (hn : n ≤ 9223372036854775807)
    (hvs : NumsAt w a1 n1 zs) (htl : BytesIn w a2 n2 tl) (hnil2 : a2 = none → n2 = 0 ∧ c2 = 0) (hnil : ao = none → n = 0 ∧ c = 0) (hs : StrsAt w ao n ss) :
    Calls Tryd.prog 3 #[.slice a1 n1 c1, .slice a2 n2 c2, .slice ao n c] w fun e w' => e = .returned (.bool true) ∧ Below w.heap.size w w' := by
  obtain ⟨i0, hi, hz0, hz1, hz2⟩ := info_parts Tryd.info5
  obtain ⟨hzl, hzw, hvc⟩ := hvs
  have key : (n1 ≤ 0) ∨ (0 < n1 ∧ ∃ b off, b < w.heap.size ∧ a1 = some ⟨b, off, none⟩ ∧ Hid (∀ i, i < n1 → w.cell? ⟨b, off + i, none⟩ = some (.int .i64 (zs.getD i 0)))) := by
    by_cases h0 : 0 < n1
    · obtain ⟨b, off, hb, ha, hc⟩ := hvc h0
      exact .inr ⟨h0, b, off, hb, ha, hc⟩
    · exact .inl (by omega)
  have HS := hd hs
  have HN := hd hnil
  have HN2 := hd hnil2
  have HTL := hd htl
  clear hs hnil htl hvc hnil2
  rcases key with hn0 | ⟨hpos, b, off, hb, rfl, HV⟩
  all_goals
    go_enter Tryd.func3, Tryd.ntmps3
    go_wp2_with fail
    refine (bytes5 _ n1 c1 a2 n2 c2 ao n c ss _ h1 h2 hn HS.out).mono ?_
    rintro e w' ⟨⟨r, rfl, hr⟩, rfl⟩
    cases r
    · go_wp2
      go_ret
      exact ⟨rfl, Below.refl _ _⟩
    have hlim := hr rfl
    clear hr
    go_wp2_with fail
    refine (varintBytes _ n1 c1 a2 n2 c2 ao n c ss _ h1 h2 hn HS.out).mono ?_
    rintro e w' ⟨⟨z, rfl, hz0', hz1', hzy⟩, rfl⟩
    clear hzy
    by_cases hz : z ≤ 1048576
    rotate_left
    · go_wp2
      go_ret
      exact ⟨rfl, Below.refl _ _⟩
    have hzd : decide ((1048576 : Int) < z) = false := by simp; omega
    go_wp2_with fail
    refine (cloneStrings ao n c ss _ (by omega) HN.out HS.out).mono ?_
    rintro e w1 ⟨ho, hc, rfl, hon, hst, hb1⟩
    have HST := hd hst
    have HB1 := hd hb1
    have HON := hd hon
    clear hst hb1 hon
    go_wp2_with fail
    go_loopw [8, 9, 29] (fun bv _ i wr => ∃ k : Nat, k ≤ n1 ∧ i = .int .i64 k ∧ wr.ownsRow w1.heap.size 5 1 bv (encs (zs.take k)).length (Lib.byteCells (encs (zs.take k))) ∧ Below w1.heap.size w1 wr) (fun _ _ i _ => n1 - (intOf i).toNat)
    case atStart => exact ⟨0, Nat.zero_le _, rfl, by simpa [encs, Lib.byteCells] using World.ownsRow_nil w1 w1.heap.size 5 1, Below.refl _ _⟩
    case round =>
      obtain ⟨k, hk, rfl, hown, hbr⟩ := hrel
      by_cases hlt : k < n1
      · try (exfalso; omega)
        all_goals
          have hc1 : wr.cell? ⟨b, off + k, none⟩ = some (.int .i64 (zs.getD k 0)) := ((hbr.cell (p := ⟨b, off + k, none⟩) (Nat.lt_of_lt_of_le hb HB1.out.size)).trans (HB1.out.cell (p := ⟨b, off + k, none⟩) hb)).trans (HV.out k hlt)
          have hzk : I64 (zs.getD k 0) := by rw [List.getD, List.getElem?_eq_getElem (by omega)]; exact hzw _ (List.getElem_mem _)
          have hel : (encs (zs.take k)).length ≤ 10 * k := by
            have := encs_len (zs.take k) (fun y hy => hzw y (List.mem_of_mem_take hy))
            simp only [List.length_take] at this
            omega
          have hsn := encs_snoc zs k (by omega)
          have HX := hd (show (encs (zs.take (k + 1))).length = (encs (zs.take k)).length + (vb (zs.getD k 0)).length ∧ Lib.byteCells (encs (zs.take (k + 1))) = Lib.byteCells (encs (zs.take k)) ++ Lib.byteCells (vb (zs.getD k 0)) by
            rw [hsn]; exact ⟨List.length_append, Lib.byteCells_append _ _⟩)
          have hstep := zzStorerVarint w1.heap.size (encs (zs.take k)).length (zs.getD k 0) hzk.1 hzk.2 _ (Lib.byteCells (encs (zs.take k))) wr hown hbr.size (by omega)
          have HSTEP := hd hstep
          have HBR := hd hbr
          have HOW := hd hown
          clear hstep hsn hown hbr
          generalize zs.getD k 0 = x at hc1 HSTEP HX
          go_wp2_with fail
          refine HSTEP.out.mono ?_
          rintro e w2 ⟨v', rfl, ho2, hg2⟩
          have HR := hd (And.intro ho2 (HBR.out.grown hg2 HBR.out.size (fun k h => (HOW.out.lt k h).1)))
          clear ho2 hg2
          go_wp2
          go_roundw
          case rel =>
            refine ⟨k + 1, by omega, by go_num, ?_, HR.out.2⟩
            rw [HX.out.1, HX.out.2]
            exact HR.out.1
          case measure => simp [intOf]; omega
      · have hk1 : encs (zs.take k) = encs zs := by rw [List.take_of_length_le (by omega)]
        rw [hk1] at hown
        clear hk1
        have hel := encs_len zs hzw
        have htn := HTL.out.1
        have HTN := hd htn
        clear htn
        go_upto_region 12 with fail
        go_cut [8] (fun v wc => wc.ownsRow w1.heap.size 5 1 v ((encs zs).length + n2) (Lib.byteCells (encs zs ++ tl)) ∧ Below w1.heap.size w1 wc)
        case first =>
          have hbc : Lib.byteCells (encs zs ++ tl) = Lib.byteCells (encs zs) ++ Lib.byteCells tl := Lib.byteCells_append _ _
          have HBC := hd hbc
          clear hbc
          cases a2 with
          | none =>
            obtain ⟨rfl, rfl⟩ := HN2.out rfl
            have htl0 : tl = [] := List.eq_nil_of_length_eq_zero HTN.out
            subst htl0
            go_wp2_with (at_builtin; refine wpList_append_own_none rfl _ _ 23 rfl w1.heap.size 5 i0 1 Tryd.underlying23 hi _ _ _ rfl hown rfl ?_)
            go_meet
            case rel => exact ⟨by rw [HBC.out]; simpa [Lib.byteCells] using hown, hbr⟩
          | some ad =>
            have hcl : ∀ j u, (Lib.byteCells tl)[j]? = some u → wr.cell? (ad.add j) = some u := by
              intro j u hj
              have hjl : j < tl.length := by have := (List.getElem?_eq_some_iff.1 hj).1; simpa [byteCells_len] using this
              obtain ⟨b2, o2, hb2, hx2, hc2⟩ := HTL.out.2.2 (by have := HTN.out; omega)
              rw [Option.some.inj hx2, Addr.add_lit, hbr.cell (p := ⟨b2, o2 + j, none⟩) (Nat.lt_of_lt_of_le hb2 HB1.out.size), HB1.out.cell (p := ⟨b2, o2 + j, none⟩) hb2, hc2 j hjl, ← hj]
              simp [Lib.byteCells, List.getElem?_eq_getElem hjl]
            have hone : ∀ u ∈ Lib.byteCells tl, u.oneCell' = true := by
              intro u hu
              obtain ⟨_, _, rfl⟩ := List.mem_map.1 hu
              rfl
            have hln : (Lib.byteCells tl).length = n2 * 1 := by rw [byteCells_len, HTN.out, Nat.mul_one]
            have HCL := hd hcl
            have HONE := hd hone
            have HLN := hd hln
            clear hcl hone hln
            have hsz1 := hbr.size
            go_wp2_with (at_builtin; refine wpList_append_own _ rfl _ _ 23 rfl w1.heap.size 5 i0 (.int .u8 0) 1 1 Tryd.underlying23 hi hz0 hz1 hz2 rfl (by decide) _ _ _ rfl hown ad n2 c2 (Lib.byteCells tl) rfl HLN.out HCL.out HONE.out (by unfold maxLen; omega) (by omega) hsz1 ?_; intro v' w2 hown' hgrow hnil')
            go_meet
            case rel => exact ⟨by rw [HBC.out]; exact hown', hbr.grown hgrow hsz1 (fun k h => (hown.lt k h).1)⟩
        case rest =>
          obtain ⟨hown2, hb2⟩ := hcut
          have hsh : ∃ a m cc, u8 = .slice a m cc := by
            rcases hown2.2 with ⟨h, _⟩ | ⟨g, cap, cur, h, _⟩
            · exact ⟨_, _, _, h⟩
            · exact ⟨_, _, _, h⟩
          have hblen : (encs zs ++ tl).length = (encs zs).length + n2 := by rw [List.length_append, HTN.out]
          have hba0 := bytesAt_own (r := wc.heap.size) hown2 (Nat.le_refl _)
          have hr0 : (wc.alloc (.cells #[u8, .slice ho n hc, .nilIface] 46)).heap[wc.heap.size]? = some (.cells #[u8, .slice ho n hc, .nilIface] 46 (0, 0)) := heap_alloc_new wc _
          have hba : BytesAt (wc.alloc (.cells #[u8, .slice ho n hc, .nilIface] 46)) wc.heap.size u8 (encs (zs.drop 0) ++ tl) :=
            hba0.kept (fun g o x _ hx => by rw [World.cell?_alloc_past _ _ _ (World.block_lt_of_cell? wc _ hx)]; exact hx)
          have HSH := hd hsh
          have HR0 := hd hr0
          have HBA := hd hba
          have HB2 := hd (HB1.out.trans (hb2.mono HB1.out.size))
          have HST2 := hd (HST.out.below hb2)
          have HBL := hd hblen
          clear hown2 hb2 hsh hba0 hr0 hba hblen hown hbr
          go_wp2_with fail
          refine (newLoader _ _ _ HSH.out ⟨_, _, _, rfl⟩).mono ?_
          rintro e w3 ⟨rfl, rfl⟩
          go_wp2_with fail
          go_loopw [11, 12, 47] (fun _ _ i wr => ∃ (k : Nat) (bv : Value), k ≤ n1 ∧ i = .int .i64 k ∧ wr.heap[wc.heap.size]? = some (.cells #[bv, .slice ho n hc, .nilIface] 46 (0, 0)) ∧ BytesAt wr wc.heap.size bv (encs (zs.drop k) ++ tl) ∧ Below wc.heap.size wc wr) (fun _ _ i _ => n1 - (intOf i).toNat)
          case atStart => exact ⟨0, _, Nat.zero_le _, rfl, HR0.out, HBA.out, (Below.refl _ wc).alloc (Nat.le_refl _) _⟩
          case round =>
            clear HR0 HBA
            obtain ⟨k, bv, hk, rfl, hrr, hbb, hbr⟩ := hrel
            by_cases hlt : k < n1
            · try (exfalso; omega)
              all_goals
                have hc1 : wr.cell? ⟨b, off + k, none⟩ = some (.int .i64 (zs.getD k 0)) := ((hbr.cell (p := ⟨b, off + k, none⟩) (Nat.lt_of_lt_of_le hb HB2.out.size)).trans (HB2.out.cell (p := ⟨b, off + k, none⟩) hb)).trans (HV.out k hlt)
                have hzk : I64 (zs.getD k 0) := by rw [List.getD, List.getElem?_eq_getElem (by omega)]; exact hzw _ (List.getElem_mem _)
                rw [encs_drop zs k (by omega), List.append_assoc] at hbb
                have hll : (vb (zs.getD k 0) ++ (encs (zs.drop (k + 1)) ++ tl)).length ≤ 9223372036854775807 := by
                  have e1 := encs_len (zs.drop (k + 1)) (fun y hy => hzw y (List.mem_of_mem_drop hy))
                  have e2 := (vb_len _ hzk.1 hzk.2).2
                  have e3 := HTN.out
                  simp only [List.length_drop] at e1
                  simp only [List.length_append]
                  omega
                have hstep := zzLoaderVarint (varint_reads hrr hbb hzk.1 hzk.2 hll)
                have HSTEP := hd hstep
                have HBR := hd hbr
                have hlr := lt_heap hrr
                clear hstep hrr hbb hbr hll
                generalize zs.getD k 0 = x at hc1 HSTEP hzk
                have hxx : (x != x) = false := by simp
                go_wp2_with fail
                refine HSTEP.out.mono ?_
                rintro e w4 ⟨rfl, bv', hr4, hb4, hk4⟩
                have hc4 : w4.cell? ⟨b, off + k, none⟩ = some (.int .i64 x) := by
                  have hbk : b < wc.heap.size := Nat.lt_of_lt_of_le hb HB2.out.size
                  rw [World.cell?_of_block (w := wr) (hk4.block b (by omega) (by omega))]
                  exact hc1
                have HR4 := hd hr4
                have HB4 := hd hb4
                have HBW := hd (HBR.out.trans (hk4.below HBR.out.size (fun k _ e => by omega)))
                clear hr4 hb4 hk4 hc1
                go_wp2_with (go_at_call 11; refine (loaderFailed_no HR4.out).mono ?_; rintro e w' ⟨rfl, h⟩; obtain rfl := h.symm)
                go_roundw
                case rel => exact ⟨k + 1, bv', by omega, by go_num, HR4.out, HB4.out, HBW.out⟩
                case measure => simp [intOf]; omega
            · have hk1 : encs (zs.drop k) ++ tl = tl := by rw [List.drop_of_length_le (by omega)]; rfl
              rw [hk1] at hbb
              clear hk1
              obtain ⟨ar, cr, rfl, hcr, hbx⟩ := hbb
              rw [HTN.out] at hrr hcr
              have HRR := hd hrr
              have HBX := hd hbx
              have HBR := hd hbr
              clear hrr hbx hbr
              have hnn : ((n2 : Int) != (n2 : Int)) = false := by simp
              obtain ⟨wo, rfl⟩ : ∃ wo : World, wo = wr := ⟨_, rfl⟩
              go_wp2_with (go_at_call 12; refine (loaderB HRR.out).mono ?_; rintro e w' ⟨rfl, h⟩; obtain rfl := h.symm)
              have hlast : ∀ w5, Below wo.heap.size wo w5 → Calls Tryd.prog 13 #[.slice ho n hc, .slice ao n c] w5 fun e w' => e = .returned (.bool true) ∧ Below w.heap.size w w' := by
                intro w5 hb5
                have hb6 := HBR.out.trans (hb5.mono HBR.out.size)
                have hbw : Below w.heap.size w w5 := HB2.out.trans (hb6.mono HB2.out.size)
                refine (sameStrings ho ao n hc c ss w5 hn HON.out (HST2.out.below hb6) (HS.out.below hbw)).mono ?_
                rintro e w6 ⟨rfl, hb7⟩
                exact ⟨rfl, hbw.trans (hb7.mono hbw.size)⟩
              have HLAST := hd hlast
              clear hlast
              have hrl : ∀ w5, Below wo.heap.size wo w5 → w5.heap[wc.heap.size]? = some (.cells #[.slice ar n2 cr, .slice ho n hc, .nilIface] 46 (0, 0)) := by
                intro w5 hb5
                rw [hb5.block _ (lt_heap HRR.out)]
                exact HRR.out
              have HRL := hd hrl
              clear hrl
              by_cases hp2 : 0 < n2
              · obtain ⟨b2, o2, hb2, ha2, hc2⟩ := HTL.out.2.2 hp2
                obtain ⟨g, o, hg, har, hcg⟩ := HBX.out (by have := HTN.out; omega)
                have hgl : g < wo.heap.size := World.block_lt_of_cell? wo _ (hcg 0 (by have := HTN.out; omega))
                have hb2o : b2 < wo.heap.size := Nat.lt_of_lt_of_le (Nat.lt_of_lt_of_le hb2 HB2.out.size) HBR.out.size
                have HCA := hd (show ∀ w5, Below wo.heap.size wo w5 → ∀ j (hj : j < tl.length), w5.cell? ⟨g, o + j, none⟩ = some (.int .u8 (tl[j]).toNat) ∧ w5.cell? ⟨b2, o2 + j, none⟩ = some (.int .u8 (tl[j]).toNat) from by
                  intro w5 hb5 j hj
                  refine ⟨(hb5.cell (p := ⟨g, o + j, none⟩) hgl).trans (hcg j hj), ?_⟩
                  rw [hb5.cell (p := ⟨b2, o2 + j, none⟩) hb2o, HBR.out.cell (p := ⟨b2, o2 + j, none⟩) (Nat.lt_of_lt_of_le hb2 HB2.out.size), HB2.out.cell (p := ⟨b2, o2 + j, none⟩) hb2]
                  exact hc2 j hj)
                clear hc2 hcg
                subst ha2 har
                go_loopw [14, 72] (fun _ i wr => ∃ k : Nat, k ≤ n2 ∧ i = .int .i64 k ∧ Below wo.heap.size wo wr) (fun _ i _ => n2 - (intOf i).toNat)
                case atStart => exact ⟨0, Nat.zero_le _, rfl, Below.refl _ _⟩
                case round =>
                  obtain ⟨k, hk, rfl, hb5⟩ := hrel
                  by_cases hlt2 : k < n2
                  · obtain ⟨e1, e2⟩ := HCA.out wr hb5 k (by have := HTN.out; omega)
                    have HB5 := hd hb5
                    clear hb5
                    generalize (tl[k]'(by have := HTN.out; omega)).toNat = y at e1 e2
                    have hyy : ((y : Int) != (y : Int)) = false := by simp
                    go_wp2_with fail
                    go_quiet (fail)
                    go_wp2
                    go_roundw
                    case rel => exact ⟨k + 1, by omega, by go_num, below_drewN HB5.out _⟩
                    case measure => simp [intOf]; omega
                  · have HB5 := hd hb5
                    clear hb5
                    go_wp2_with (go_at_call 14; refine (loaderStrings (HRL.out wr HB5.out)).mono ?_; rintro e w' ⟨rfl, h⟩; obtain rfl := h.symm)
                    refine (HLAST.out wr HB5.out).mono ?_
                    rintro e w6 ⟨rfl, hb6⟩
                    have HB6 := hd hb6
                    clear hb6
                    go_wp2
                    go_ret
                    exact ⟨rfl, HB6.out⟩
              · refine wp_loop_rounds 1 ?_
                rw [rounds_succ]
                go_wp2_with (go_at_call 14; refine (loaderStrings (HRL.out wo (Below.refl _ _))).mono ?_; rintro e w' ⟨rfl, h⟩; obtain rfl := h.symm)
                refine (HLAST.out wo (Below.refl _ _)).mono ?_
                rintro e w6 ⟨rfl, hb6⟩
                have HB6 := hd hb6
                clear hb6
                go_wp2
                go_ret
                exact ⟨rfl, HB6.out⟩
end Go.Proofs.Qxb6618929aDoor
