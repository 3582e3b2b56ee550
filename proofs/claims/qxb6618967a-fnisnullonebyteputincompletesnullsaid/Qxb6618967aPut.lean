/-
  A PROOF OF 'Rows.FnIsNullOneBytePutInCompletesNullSaid'. The frame is the seat's given shell (proof-skeleton.mjs); the walk is typed here.
-/
import Derived.Test.Qxb6618967aPutParts
import Derived.WalkSmall
import Derived.WalkKit
import Derived.ProofKit
import Derived.OpenShut
import Derived.ShutString
import Derived.ChangeOld
import Derived.Below
namespace Go.Proofs.Qxb6618967a.fnIsNullOneBytePutInCompletesNull
open Go.ChangeShapes Go.WideShapes Go.ChangeAt Go.RowKit
open Go.ChangeMaps (open_string shut_string)
set_option linter.unusedVariables false

/-! ### STEP 1: THE WALK -/
set_option maxRecDepth 100000 in
set_option maxHeartbeats 1000000 in
theorem main_some (b off n c : Nat) (zs : List Int) (q : Nat) (w : World) (hz : zs.length = n) (hb : b < w.heap.size) (hw : ∀ z ∈ zs, 0 ≤ z ∧ z ≤ 255)
    (hn : n ≤ 65536) (hq : q ≤ n)
    (hcell : ∀ i, i < n → w.cell? ⟨b, off + i, none⟩ = some (.int .u8 (zs.getD i 0))) :
    Calls Try.prog 3 #[.slice (some ⟨b, off, none⟩) n c, .int .i64 q] w fun e w' => e = .returned (.bool true) ∧ Below w.heap.size w w' := by
  have hd : decide (n ≤ 1048576) = true := by simp; omega
  have hgt : decide ((65536 : Int) < (n : Int)) = false := by simp; omega
  have hq0 : decide ((q : Int) < 0) = false := by simp
  have hq1 : decide ((n : Int) < (q : Int)) = false := by simp; omega
  go_enter Try.func3, Try.ntmps3
  go_upto_if 32 with (go_at_call 5; refine (bytes5 _ _ _ _ _ (by omega)).mono ?_; rintro e w' ⟨rfl, h⟩; obtain rfl := h.symm)
  go_cut [5] (fun t wc => t = .int .i64 (wantI zs n q) ∧ Below w.heap.size w wc)
  case first =>
    by_cases h3 : n = 3
    · have e3 : ((n : Int) == 3) = true := by simp [h3]
      have H3 : Hid (n = 3) := h3
      have l3 : 3 ≤ n := by omega
      clear h3
      go_wp2
      go_loopw [6, 7] (fun o i wr => ∃ k : Nat, k ≤ 3 ∧ o = .bool (okB zs q k) ∧ i = .int .i64 k ∧ Below w.heap.size w wr) (fun _ i _ => 3 - (intOf i).toNat)
      case atStart => exact ⟨0, by omega, rfl, rfl, Below.refl _ _⟩
      case round =>
        obtain ⟨k, hk, rfl, rfl, hbel⟩ := hrel
        by_cases hlt : k < 3
        · have hc1 : wr.cell? ⟨b, off + k, none⟩ = some (.int .u8 (zs.getD k 0)) := (hbel.cell hb).trans (hcell k (by omega))
          have hs := okB_step zs q k
          have HS : Hid (_ = _) := hs
          have HB : Hid (Below _ _ _) := hbel
          have hbd : 0 ≤ zs.getD k 0 ∧ zs.getD k 0 ≤ 255 := getD_bd hw k
          clear hs hbel hcell
          generalize zs.getD k 0 = x at hc1 HS hbd
          have hxn : ∀ y, (x != y) = !(x == y) := fun y => rfl
          by_cases hge : q ≤ k
          · have HX : Hid (ex q k = nb ((k : Int) + 1)) := by simp [Hid, ex, hge]
            cases hx : (x == nb ((k : Int) + 1))
            all_goals
              go_wp2_with fail
              go_quiet ((go_at_call 6; exact Calls.quiet_of_same (nb_any _ _)))
              go_wp2
              go_roundw
              case rel => exact ⟨k + 1, by omega, by rw [HS.out, HX.out, hx]; simp, by go_num, below_drewN HB.out _⟩
              case measure => simp [intOf]; omega
          · have HX : Hid (ex q k = nb (k : Int)) := by simp [Hid, ex, hge]
            cases hx : (x == nb (k : Int))
            all_goals
              go_wp2_with fail
              go_quiet ((go_at_call 6; exact Calls.quiet_of_same (nb_any _ _)))
              go_wp2
              go_roundw
              case rel => exact ⟨k + 1, by omega, by rw [HS.out, HX.out, hx]; simp, by go_num, below_drewN HB.out _⟩
              case measure => simp [intOf]; omega
        · have hk3 : k = 3 := by omega
          subst hk3
          have HB : Hid (Below _ _ _) := hbel
          clear hbel
          cases ho : okB zs q 3
          · go_wp2
            go_meet
            case rel => exact ⟨by simp [wantI, ho], HB.out⟩
          · have hnb := nb_bd (q : Int)
            go_wp2_with (go_at_call 6; refine (nb_any _ _).mono ?_; rintro e w' ⟨rfl, h⟩; obtain rfl := h.symm)
            go_meet
            case rel => exact ⟨by simp [wantI, ho, H3.out], HB.out⟩
    · have e3 : ((n : Int) == 3) = false := by simp; omega
      go_wp2
      go_meet
      case rel => exact ⟨by simp [wantI, h3], Below.refl _ _⟩
  case rest =>
    obtain ⟨rfl, hbel⟩ := hcut
    have hwb := want_bd zs n q
    have HW : Hid (∀ x, 0 ≤ x → nullB (zs.take q ++ x :: zs.drop q) = (x == wantI zs n q)) := fun x hx => want_null zs n q x hz hq hx
    generalize wantI zs n q = wt at hwb HW
    obtain ⟨i0, hi, hz0, hz1, hz2⟩ := info_parts Try.info5
    go_wp2_with (at_make; refine wpList_make_full _ rfl _ _ 22 rfl wc.heap.size 5 i0 (.int .u8 0) 1 Try.underlying22 hi hz0 hz1 _ _ _ _ (n + 1) rfl rfl (by omega) (by omega) (by rw [hz2]; omega) (by unfold maxLen; omega) (Nat.le_refl _) ?_; intro w1 hown hgrow)
    have hB1 : Below wc.heap.size wc w1 := (Below.refl _ _).grown hgrow (Nat.le_refl _) (fun k h => by cases h)
    have hsz := hbel.size
    have hrow0 : w1.ownsRow wc.heap.size 5 1 (.slice (some ⟨wc.heap.size, 0, none⟩) (n + 1) (n + 1)) (n + 1) (row (f1 zs 0) (n + 1)) := by
      have e : (madeCells (Value.int .u8 0).cells ((n + 1) * 1)).toList = row (f1 zs 0) (n + 1) := by
        rw [show (Value.int .u8 0).cells = #[Value.int .u8 0] from rfl, toList_madeCells_one, Nat.mul_one]
        apply List.ext_getElem?
        intro t
        by_cases ht : t < n + 1
        · rw [row_at _ _ _ ht]; simp [ht, f1]
        · rw [List.getElem?_eq_none (by simp; omega), List.getElem?_eq_none (by rw [row_len]; omega)]
      rw [← e]; exact hown
    clear hown hgrow hi hz0 hz1 hz2
    go_loopw [10] (fun i wr => ∃ k : Nat, k ≤ q ∧ i = .int .i64 k ∧ wr.ownsRow wc.heap.size 5 1 (.slice (some ⟨wc.heap.size, 0, none⟩) (n + 1) (n + 1)) (n + 1) (row (f1 zs k) (n + 1)) ∧ Below wc.heap.size wc wr) (fun i _ => q - (intOf i).toNat)
    case atStart => exact ⟨0, Nat.zero_le _, rfl, hrow0, hB1⟩
    case round =>
      obtain ⟨k, hk, rfl, ho, hb1⟩ := hrel
      by_cases hlt : k < q
      · have hc1 : wr.cell? ⟨b, off + k, none⟩ = some (.int .u8 (zs.getD k 0)) := ((hb1.cell (show b < wc.heap.size by omega)).trans (hbel.cell hb)).trans (hcell k (by omega))
        have hc2 : wr.cell? ⟨wc.heap.size, k, none⟩ = some (.int .u8 (f1 zs k k)) := by rw [ho.cellAt k (by omega)]; exact row_at _ _ _ (by omega)
        have hf2 := ho.frozenAt k
        have hst := ho.stored k (.int .u8 (zs.getD k 0))
        rw [row_set, row_congr (g := f1 zs (k + 1)) (fun i hi => by simp only [f1]; split <;> split <;> first | (subst i; rfl) | rfl | omega)] at hst
        have HST : Hid (_ ∧ _) := hst
        have HB1 : Hid (Below _ _ _) := hb1
        clear hst hrow0 hB1 ho hb1
        generalize zs.getD k 0 = x at hc1 HST
        generalize f1 zs k k = y at hc2
        go_wp2
        go_roundw
        case rel => exact ⟨k + 1, by omega, by go_num, HST.out.1, HB1.out.setCell (Nat.le_refl _) _⟩
        case measure => simp [intOf]; omega
      · have hkq : q = k := by omega
        subst hkq
        clear hrow0 hB1
        have ho2 : wr.ownsRow wc.heap.size 5 1 (.slice (some ⟨wc.heap.size, 0, none⟩) (n + 1) (n + 1)) (n + 1) (row (f2 zs q q) (n + 1)) := by
          rw [row_congr (g := f1 zs q) (fun i hi => by simp only [f1, f2]; split <;> (try split) <;> (try split) <;> first | rfl | omega)]; exact ho
        obtain ⟨wo, rfl⟩ : ∃ wo : World, wo = wr := ⟨_, rfl⟩
        have HO : Hid (World.ownsRow wo _ _ _ _ _ _) := ho2
        have HB1 : Hid (Below _ _ _) := hb1
        clear ho ho2 hb1
        go_wp2
        go_loopw [11] (fun i wr => ∃ k : Nat, q ≤ k ∧ k ≤ n ∧ i = .int .i64 k ∧ wr.ownsRow wc.heap.size 5 1 (.slice (some ⟨wc.heap.size, 0, none⟩) (n + 1) (n + 1)) (n + 1) (row (f2 zs q k) (n + 1)) ∧ Below wc.heap.size wc wr) (fun i _ => n - (intOf i).toNat)
        case atStart => exact ⟨q, Nat.le_refl _, hq, rfl, HO.out, HB1.out⟩
        case round =>
          clear HO HB1
          obtain ⟨k, hqk, hk, rfl, ho, hb1⟩ := hrel
          by_cases hlt : k < n
          · have hc1 : wr.cell? ⟨b, off + k, none⟩ = some (.int .u8 (zs.getD k 0)) := ((hb1.cell (show b < wc.heap.size by omega)).trans (hbel.cell hb)).trans (hcell k (by omega))
            have hc2 : wr.cell? ⟨wc.heap.size, k + 1, none⟩ = some (.int .u8 (f2 zs q k (k + 1))) := by rw [ho.cellAt (k + 1) (by omega)]; exact row_at _ _ _ (by omega)
            have hf2 := ho.frozenAt (k + 1)
            have hst := ho.stored (k + 1) (.int .u8 (zs.getD k 0))
            rw [row_set, row_congr (g := f2 zs q (k + 1)) (fun i hi => by
              by_cases e : i = k + 1
              · subst e
                simp only [f2, if_true, Nat.add_sub_cancel]
                rw [if_neg (by omega), if_neg (by omega), if_pos (by omega)]
              · simp only [f2, if_neg e]
                have : (i ≤ k) ↔ (i ≤ k + 1) := by omega
                simp only [this])] at hst
            have HST : Hid (_ ∧ _) := hst
            have HB1 : Hid (Below _ _ _) := hb1
            clear hst ho hb1
            generalize zs.getD k 0 = x at hc1 HST
            generalize f2 zs q k (k + 1) = y at hc2
            go_wp2
            go_roundw
            case rel => exact ⟨k + 1, by omega, by omega, by go_num, HST.out.1, HB1.out.setCell (Nat.le_refl _) _⟩
            case measure => simp [intOf]; omega
          · have hkn : n = k := by omega
            have ho3 : wr.ownsRow wc.heap.size 5 1 (.slice (some ⟨wc.heap.size, 0, none⟩) (n + 1) (n + 1)) (n + 1) (row (f3 zs q 0) (n + 1)) := by
              rw [row_congr (g := f2 zs q k) (fun i hi => by simp only [f2, f3]; rw [if_pos (show i ≤ k by omega)])]; exact ho
            clear hkn ho
            have HO : Hid (World.ownsRow wr _ _ _ _ _ _) := ho3
            have HB1 : Hid (Below _ _ _) := hb1
            obtain ⟨wp, hwp⟩ : ∃ wp : World, wp = wr := ⟨_, rfl⟩
            clear ho3 hb1 hwp
            go_wp2
            go_loopw [12, 13, 14] (fun u v i wr => ∃ k : Nat, k ≤ 256 ∧ u = .int .i64 (cntW wt k) ∧ v = .int .i64 (gotW wt k) ∧ i = .int .i64 k ∧ Below wc.heap.size wc wr ∧
              ∃ x : Int, wr.ownsRow wc.heap.size 5 1 (.slice (some ⟨wc.heap.size, 0, none⟩) (n + 1) (n + 1)) (n + 1) (row (f3 zs q x) (n + 1))) (fun _ _ i _ => 256 - (intOf i).toNat)
            case atStart => exact ⟨0, by omega, by rw [cntW, if_neg (by omega)], by rw [gotW, if_neg (by omega)], rfl, HB1.out, 0, HO.out⟩
            case round =>
              clear HO HB1
              obtain ⟨k, hk, e5, e6, rfl, hb1, x, ho⟩ := hrel
              by_cases hlt : k < 256
              · subst e5 e6
                have hc2 : wr.cell? ⟨wc.heap.size, q, none⟩ = some (.int .u8 x) := by rw [ho.cellAt q (by omega), row_at _ _ _ (by omega)]; simp [f3]
                have hf2 := ho.frozenAt q
                have hst := ho.stored q (.int .u8 k)
                rw [row_set, row_congr (g := f3 zs q k) (fun i hi => by
                  by_cases e : i = q
                  · subst e; simp [f3]
                  · simp only [f3, if_neg e])] at hst
                have HST : Hid (_ ∧ _) := hst
                have HB1 : Hid (Below _ _ _) := hb1
                have hbd := cntW_bd wt k
                clear hst ho hb1
                have HCL : Hid (∀ i, i < n + 1 → (wr.setCell ⟨wc.heap.size, q, none⟩ (.int .u8 k)).cell? ⟨wc.heap.size, 0 + i, none⟩ = some (.int .u8 ((zs.take q ++ (k : Int) :: zs.drop q).getD i 0))) := by
                  intro i hi
                  rw [Nat.zero_add, HST.out.1.cellAt i (by omega), row_at _ _ _ hi, f3_list zs n q k hz hq i hi]
                have HLN : Hid ((zs.take q ++ (k : Int) :: zs.drop q).length = n + 1) := by
                  show _ = _
                  simp only [List.length_append, List.length_take, List.length_cons, List.length_drop]; omega
                have HBD : Hid (∀ z ∈ zs.take q ++ (k : Int) :: zs.drop q, 0 ≤ z ∧ z ≤ 255) := by
                  intro z hz'
                  rcases List.mem_append.1 hz' with h | h
                  · exact hw z (List.mem_of_mem_take h)
                  · rcases List.mem_cons.1 h with h | h
                    · omega
                    · exact hw z (List.mem_of_mem_drop h)
                by_cases hit : (k : Int) = wt
                · have HH : Hid (_ ∧ _) := cntW_hit wt k hit
                  have HN : Hid (nullB (zs.take q ++ (k : Int) :: zs.drop q) = true) := by rw [Hid, HW.out _ (Int.natCast_nonneg k)]; simp [hit]
                  clear hit
                  generalize zs.take q ++ (k : Int) :: zs.drop q = ys at HCL HLN HBD HN
                  go_wp2_with fail
                  refine (isNull_some wc.heap.size 0 (n + 1) (n + 1) ys _ HLN.out HBD.out HCL.out).mono ?_
                  rintro e w2 ⟨rfl, rfl⟩
                  rw [HN.out]
                  go_wp2
                  go_roundw
                  case rel => exact ⟨k + 1, by omega, by rw [← HH.out.1], by rw [← HH.out.2], by go_num, HB1.out.setCell (Nat.le_refl _) _, k, HST.out.1⟩
                  case measure => simp [intOf]; omega
                · have HH : Hid (_ ∧ _) := cntW_miss wt k hit
                  have HN : Hid (nullB (zs.take q ++ (k : Int) :: zs.drop q) = false) := by rw [Hid, HW.out _ (Int.natCast_nonneg k)]; simp [hit]
                  clear hit
                  generalize zs.take q ++ (k : Int) :: zs.drop q = ys at HCL HLN HBD HN
                  go_wp2_with fail
                  refine (isNull_some wc.heap.size 0 (n + 1) (n + 1) ys _ HLN.out HBD.out HCL.out).mono ?_
                  rintro e w2 ⟨rfl, rfl⟩
                  rw [HN.out]
                  go_wp2
                  go_roundw
                  case rel => exact ⟨k + 1, by omega, by rw [← HH.out.1], by rw [← HH.out.2], by go_num, HB1.out.setCell (Nat.le_refl _) _, k, HST.out.1⟩
                  case measure => simp [intOf]; omega
              · have hk2 : k = 256 := by omega
                subst hk2
                by_cases hneg : wt < 0
                · rw [cntW, if_neg (by omega)] at e5
                  rw [gotW, if_neg (by omega)] at e6
                  subst e5 e6
                  clear ho
                  go_wp2
                  go_ret
                  exact ⟨rfl, hbel.trans (hb1.mono hsz)⟩
                · rw [cntW, if_pos (by omega)] at e5
                  rw [gotW, if_pos (by omega)] at e6
                  subst e5 e6
                  clear ho
                  go_wp2
                  go_ret
                  exact ⟨rfl, hbel.trans (hb1.mono hsz)⟩

set_option maxRecDepth 100000 in
set_option maxHeartbeats 1000000 in
theorem main_empty (ao : Option Addr) (n c : Nat) (zs : List Int) (q : Nat) (w : World) (hz : zs.length = n) (hn0 : n ≤ 0) (hw : ∀ z ∈ zs, 0 ≤ z ∧ z ≤ 255)
    (hn : n ≤ 65536) (hq : q ≤ n) :
    Calls Try.prog 3 #[.slice ao n c, .int .i64 q] w fun e w' => e = .returned (.bool true) ∧ Below w.heap.size w w' := by
  have hd : decide (n ≤ 1048576) = true := by simp; omega
  have hgt : decide ((65536 : Int) < (n : Int)) = false := by simp; omega
  have hq0 : decide ((q : Int) < 0) = false := by simp
  have hq1 : decide ((n : Int) < (q : Int)) = false := by simp; omega
  go_enter Try.func3, Try.ntmps3
  go_upto_if 32 with (go_at_call 5; refine (bytes5 _ _ _ _ _ (by omega)).mono ?_; rintro e w' ⟨rfl, h⟩; obtain rfl := h.symm)
  go_cut [5] (fun t wc => t = .int .i64 (wantI zs n q) ∧ Below w.heap.size w wc)
  case first =>
    have h3 : ¬ n = 3 := by omega
    have e3 : ((n : Int) == 3) = false := by simp; omega
    go_wp2
    go_meet
    case rel => exact ⟨by simp [wantI, h3], Below.refl _ _⟩
  case rest =>
    obtain ⟨rfl, hbel⟩ := hcut
    have hwb := want_bd zs n q
    have HW : Hid (∀ x, 0 ≤ x → nullB (zs.take q ++ x :: zs.drop q) = (x == wantI zs n q)) := fun x hx => want_null zs n q x hz hq hx
    generalize wantI zs n q = wt at hwb HW
    obtain ⟨i0, hi, hz0, hz1, hz2⟩ := info_parts Try.info5
    go_wp2_with (at_make; refine wpList_make_full _ rfl _ _ 22 rfl wc.heap.size 5 i0 (.int .u8 0) 1 Try.underlying22 hi hz0 hz1 _ _ _ _ (n + 1) rfl rfl (by omega) (by omega) (by rw [hz2]; omega) (by unfold maxLen; omega) (Nat.le_refl _) ?_; intro w1 hown hgrow)
    have hB1 : Below wc.heap.size wc w1 := (Below.refl _ _).grown hgrow (Nat.le_refl _) (fun k h => by cases h)
    have hsz := hbel.size
    have hrow0 : w1.ownsRow wc.heap.size 5 1 (.slice (some ⟨wc.heap.size, 0, none⟩) (n + 1) (n + 1)) (n + 1) (row (f1 zs 0) (n + 1)) := by
      have e : (madeCells (Value.int .u8 0).cells ((n + 1) * 1)).toList = row (f1 zs 0) (n + 1) := by
        rw [show (Value.int .u8 0).cells = #[Value.int .u8 0] from rfl, toList_madeCells_one, Nat.mul_one]
        apply List.ext_getElem?
        intro t
        by_cases ht : t < n + 1
        · rw [row_at _ _ _ ht]; simp [ht, f1]
        · rw [List.getElem?_eq_none (by simp; omega), List.getElem?_eq_none (by rw [row_len]; omega)]
      rw [← e]; exact hown
    clear hown hgrow hi hz0 hz1 hz2
    go_loopw [10] (fun i wr => ∃ k : Nat, k ≤ q ∧ i = .int .i64 k ∧ wr.ownsRow wc.heap.size 5 1 (.slice (some ⟨wc.heap.size, 0, none⟩) (n + 1) (n + 1)) (n + 1) (row (f1 zs k) (n + 1)) ∧ Below wc.heap.size wc wr) (fun i _ => q - (intOf i).toNat)
    case atStart => exact ⟨0, Nat.zero_le _, rfl, hrow0, hB1⟩
    case round =>
      obtain ⟨k, hk, rfl, ho, hb1⟩ := hrel
      by_cases hlt : k < q
      · exact absurd hlt (by omega)
      · have hkq : q = k := by omega
        subst hkq
        clear hrow0 hB1
        have ho2 : wr.ownsRow wc.heap.size 5 1 (.slice (some ⟨wc.heap.size, 0, none⟩) (n + 1) (n + 1)) (n + 1) (row (f2 zs q q) (n + 1)) := by
          rw [row_congr (g := f1 zs q) (fun i hi => by simp only [f1, f2]; split <;> (try split) <;> (try split) <;> first | rfl | omega)]; exact ho
        obtain ⟨wo, rfl⟩ : ∃ wo : World, wo = wr := ⟨_, rfl⟩
        have HO : Hid (World.ownsRow wo _ _ _ _ _ _) := ho2
        have HB1 : Hid (Below _ _ _) := hb1
        clear ho ho2 hb1
        go_wp2
        go_loopw [11] (fun i wr => ∃ k : Nat, q ≤ k ∧ k ≤ n ∧ i = .int .i64 k ∧ wr.ownsRow wc.heap.size 5 1 (.slice (some ⟨wc.heap.size, 0, none⟩) (n + 1) (n + 1)) (n + 1) (row (f2 zs q k) (n + 1)) ∧ Below wc.heap.size wc wr) (fun i _ => n - (intOf i).toNat)
        case atStart => exact ⟨q, Nat.le_refl _, hq, rfl, HO.out, HB1.out⟩
        case round =>
          clear HO HB1
          obtain ⟨k, hqk, hk, rfl, ho, hb1⟩ := hrel
          by_cases hlt : k < n
          · exact absurd hlt (by omega)
          · have hkn : n = k := by omega
            have ho3 : wr.ownsRow wc.heap.size 5 1 (.slice (some ⟨wc.heap.size, 0, none⟩) (n + 1) (n + 1)) (n + 1) (row (f3 zs q 0) (n + 1)) := by
              rw [row_congr (g := f2 zs q k) (fun i hi => by simp only [f2, f3]; rw [if_pos (show i ≤ k by omega)])]; exact ho
            clear hkn ho
            have HO : Hid (World.ownsRow wr _ _ _ _ _ _) := ho3
            have HB1 : Hid (Below _ _ _) := hb1
            obtain ⟨wp, hwp⟩ : ∃ wp : World, wp = wr := ⟨_, rfl⟩
            clear ho3 hb1 hwp
            go_wp2
            go_loopw [12, 13, 14] (fun u v i wr => ∃ k : Nat, k ≤ 256 ∧ u = .int .i64 (cntW wt k) ∧ v = .int .i64 (gotW wt k) ∧ i = .int .i64 k ∧ Below wc.heap.size wc wr ∧
              ∃ x : Int, wr.ownsRow wc.heap.size 5 1 (.slice (some ⟨wc.heap.size, 0, none⟩) (n + 1) (n + 1)) (n + 1) (row (f3 zs q x) (n + 1))) (fun _ _ i _ => 256 - (intOf i).toNat)
            case atStart => exact ⟨0, by omega, by rw [cntW, if_neg (by omega)], by rw [gotW, if_neg (by omega)], rfl, HB1.out, 0, HO.out⟩
            case round =>
              clear HO HB1
              obtain ⟨k, hk, e5, e6, rfl, hb1, x, ho⟩ := hrel
              by_cases hlt : k < 256
              · subst e5 e6
                have hc2 : wr.cell? ⟨wc.heap.size, q, none⟩ = some (.int .u8 x) := by rw [ho.cellAt q (by omega), row_at _ _ _ (by omega)]; simp [f3]
                have hf2 := ho.frozenAt q
                have hst := ho.stored q (.int .u8 k)
                rw [row_set, row_congr (g := f3 zs q k) (fun i hi => by
                  by_cases e : i = q
                  · subst e; simp [f3]
                  · simp only [f3, if_neg e])] at hst
                have HST : Hid (_ ∧ _) := hst
                have HB1 : Hid (Below _ _ _) := hb1
                have hbd := cntW_bd wt k
                clear hst ho hb1
                have HCL : Hid (∀ i, i < n + 1 → (wr.setCell ⟨wc.heap.size, q, none⟩ (.int .u8 k)).cell? ⟨wc.heap.size, 0 + i, none⟩ = some (.int .u8 ((zs.take q ++ (k : Int) :: zs.drop q).getD i 0))) := by
                  intro i hi
                  rw [Nat.zero_add, HST.out.1.cellAt i (by omega), row_at _ _ _ hi, f3_list zs n q k hz hq i hi]
                have HLN : Hid ((zs.take q ++ (k : Int) :: zs.drop q).length = n + 1) := by
                  show _ = _
                  simp only [List.length_append, List.length_take, List.length_cons, List.length_drop]; omega
                have HBD : Hid (∀ z ∈ zs.take q ++ (k : Int) :: zs.drop q, 0 ≤ z ∧ z ≤ 255) := by
                  intro z hz'
                  rcases List.mem_append.1 hz' with h | h
                  · exact hw z (List.mem_of_mem_take h)
                  · rcases List.mem_cons.1 h with h | h
                    · omega
                    · exact hw z (List.mem_of_mem_drop h)
                by_cases hit : (k : Int) = wt
                · have HH : Hid (_ ∧ _) := cntW_hit wt k hit
                  have HN : Hid (nullB (zs.take q ++ (k : Int) :: zs.drop q) = true) := by rw [Hid, HW.out _ (Int.natCast_nonneg k)]; simp [hit]
                  clear hit
                  generalize zs.take q ++ (k : Int) :: zs.drop q = ys at HCL HLN HBD HN
                  go_wp2_with fail
                  refine (isNull_some wc.heap.size 0 (n + 1) (n + 1) ys _ HLN.out HBD.out HCL.out).mono ?_
                  rintro e w2 ⟨rfl, rfl⟩
                  rw [HN.out]
                  go_wp2
                  go_roundw
                  case rel => exact ⟨k + 1, by omega, by rw [← HH.out.1], by rw [← HH.out.2], by go_num, HB1.out.setCell (Nat.le_refl _) _, k, HST.out.1⟩
                  case measure => simp [intOf]; omega
                · have HH : Hid (_ ∧ _) := cntW_miss wt k hit
                  have HN : Hid (nullB (zs.take q ++ (k : Int) :: zs.drop q) = false) := by rw [Hid, HW.out _ (Int.natCast_nonneg k)]; simp [hit]
                  clear hit
                  generalize zs.take q ++ (k : Int) :: zs.drop q = ys at HCL HLN HBD HN
                  go_wp2_with fail
                  refine (isNull_some wc.heap.size 0 (n + 1) (n + 1) ys _ HLN.out HBD.out HCL.out).mono ?_
                  rintro e w2 ⟨rfl, rfl⟩
                  rw [HN.out]
                  go_wp2
                  go_roundw
                  case rel => exact ⟨k + 1, by omega, by rw [← HH.out.1], by rw [← HH.out.2], by go_num, HB1.out.setCell (Nat.le_refl _) _, k, HST.out.1⟩
                  case measure => simp [intOf]; omega
              · have hk2 : k = 256 := by omega
                subst hk2
                by_cases hneg : wt < 0
                · rw [cntW, if_neg (by omega)] at e5
                  rw [gotW, if_neg (by omega)] at e6
                  subst e5 e6
                  clear ho
                  go_wp2
                  go_ret
                  exact ⟨rfl, hbel.trans (hb1.mono hsz)⟩
                · rw [cntW, if_pos (by omega)] at e5
                  rw [gotW, if_pos (by omega)] at e6
                  subst e5 e6
                  clear ho
                  go_wp2
                  go_ret
                  exact ⟨rfl, hbel.trans (hb1.mono hsz)⟩

theorem any_len (ao : Option Addr) (b off n c : Nat) (zs : List Int) (p : Int) (w : World) (hz : zs.length = n) (HA : Hid (0 < n → ao = some ⟨b, off, none⟩ ∧ b < w.heap.size)) (hw : ∀ z ∈ zs, 0 ≤ z ∧ z ≤ 255)
    (hmax : n ≤ 9223372036854775807)
    (hcell : ∀ i, i < n → w.cell? ⟨b, off + i, none⟩ = some (.int .u8 (zs.getD i 0))) :
    Calls Try.prog 3 #[.slice ao n c, .int .i64 p] w fun e w' => e = .returned (.bool true) ∧ Below w.heap.size w w' := by
  by_cases h1 : n ≤ 1048576
  · have hd : decide (n ≤ 1048576) = true := by simp [h1]
    by_cases h2 : n ≤ 65536
    · by_cases h3 : p < 0
      · clear hcell
        go_enter Try.func3, Try.ntmps3
        go_wp2_with (go_at_call 5; refine (bytes5 _ _ _ _ _ (by omega)).mono ?_; rintro e w' ⟨rfl, h⟩; obtain rfl := h.symm)
        go_ret
        exact ⟨rfl, Below.refl _ _⟩
      · by_cases h4 : (n : Int) < p
        · clear hcell
          go_enter Try.func3, Try.ntmps3
          go_wp2_with (go_at_call 5; refine (bytes5 _ _ _ _ _ (by omega)).mono ?_; rintro e w' ⟨rfl, h⟩; obtain rfl := h.symm)
          go_ret
          exact ⟨rfl, Below.refl _ _⟩
        · obtain ⟨q, rfl⟩ := Int.eq_ofNat_of_zero_le (show 0 ≤ p by omega)
          by_cases h5 : 0 < n
          · obtain ⟨rfl, hb⟩ := HA.out h5
            exact main_some b off n c zs q w hz hb hw h2 (by omega) hcell
          · exact main_empty ao n c zs q w hz (by omega) hw h2 (by omega)
    · clear hcell
      go_enter Try.func3, Try.ntmps3
      go_wp2_with (go_at_call 5; refine (bytes5 _ _ _ _ _ (by omega)).mono ?_; rintro e w' ⟨rfl, h⟩; obtain rfl := h.symm)
      go_ret
      exact ⟨rfl, Below.refl _ _⟩
  · have hd : decide (n ≤ 1048576) = false := by simp [h1]
    clear hcell
    go_enter Try.func3, Try.ntmps3
    go_wp2_with (go_at_call 5; refine (bytes5 _ _ _ _ _ (by omega)).mono ?_; rintro e w' ⟨rfl, h⟩; obtain rfl := h.symm)
    go_ret
    exact ⟨rfl, Below.refl _ _⟩

theorem walk (a0 : Option Addr) (len0 cap0 : Nat) (z0 : List Int) (a1 : Int) (w : World) (w0 : IsRow .u8 w a0 len0 cap0 z0) (w1 : (Lit.int .i64 a1).wf = true) :
    Calls Try.prog 3 #[.slice a0 len0 cap0, .int .i64 a1] w fun e w' => e = .returned (.bool true) ∧ Below w.heap.size w w' := by
  rcases w0 with ⟨rfl, rfl, rfl, rfl⟩ | ⟨x, rfl, hl, hm, hz, hcell, hwz⟩
  · exact any_len none 0 0 0 0 [] a1 w rfl (fun h => by omega) (by simp) (by omega) (fun i hi => by omega)
  · unfold maxLen at hm
    have hwf : ∀ z ∈ z0.take len0, 0 ≤ z ∧ z ≤ 255 := fun z hz' => bounds_u8 (hwz z (List.mem_of_mem_take hz'))
    by_cases h0 : len0 = 0
    · subst h0
      exact any_len (some x) 0 0 0 cap0 [] a1 w rfl (fun h => by omega) (by simp) (by omega) (fun i hi => by omega)
    · obtain ⟨b, off, rfl, hb, hc⟩ := row_open (n := len0) (by omega) (by omega) hcell
      exact any_len _ b off len0 cap0 (z0.take len0) a1 w (by simp; omega) (fun _ => ⟨rfl, hb⟩) hwf (by omega) hc

/-! ### THE ROW's STEP: WRITTEN OUT: LEAVE IT -/
set_option maxRecDepth 100000 in
theorem lifted (os : Os) (started : os.Started) (H : Type) (enc : TypeId × Value → H) :
    ReturnsInHanded {} Try.checked os 3 .any (Rows.fnIsNullOneBytePutInCompletesNullSpec.pre6 enc Try.prog Try.f3 Rows.fnIsNullOneBytePutInCompletesNullRow.domain false) (Rows.fnIsNullOneBytePutInCompletesNullSpec.post enc Try.prog Try.f3 false true false false) := by
  refine returnsInHanded_of_change (C := Try.checked) own started (by kernel_rfl) Try.func3
    (ChangeSpec.witness6 (enc := enc) (C := Try.checked) false ⟨#[], #[.slice none 0 0, .int .i64 0], []⟩ 8 (by kernel_rfl) (by kernel_rfl) (by kernel_rfl) (by kernel_rfl)) ?_
  intro W base args ds gs before hval0 hW hcnd _
  have hval : ∀ (j : Nat) t v, Try.f3.params[j]? = some t → args[j]? = some v → Value.okWide Try.prog W .any base t v := hval0
  have hW' := hW
  obtain ⟨p, q, hA0, hV, rfl, hfz, hnd⟩ := hW
  have hA : DataW.TrodAll enc Try.prog W 0 (fun _ => true) true Try.f3.params.toList args.toList ds p := hA0
  rw [Try.params3] at hA hval
  obtain ⟨v0, vs0, d0, ds0, p0, q0, hargs, rfl, rfl, h0, r0⟩ := trodAll_cons hA
  obtain ⟨v1, vs1, d1, ds1, p1, q1, rfl, rfl, rfl, h1, r1⟩ := trodAll_cons r0
  obtain ⟨rfl, rfl, rfl⟩ := trodAll_nil r1
  obtain rfl : args = #[v0, v1] := by cases args; simp_all
  obtain ⟨rfl, rfl⟩ := trodVars_none hV
  obtain ⟨a0, len0, cap0, rfl⟩ := okWide_slice Try.underlying22 (hval 0 22 v0 rfl rfl)
  have k0 := h0
  have lt0 : ∀ x ∈ p0, x.block < W.heap.size := by obtain ⟨m, hm⟩ := k0; exact DataW.trod_lt m _ _ _ hm
  obtain ⟨z0, w0⟩ : ∃ zs, IsRow .u8 W a0 len0 cap0 zs := by
    obtain ⟨fuel, hf⟩ := h0
    rcases open_ints Try.underlying22 Try.underlying5 (by kernel_rfl) hf with ⟨hcs, _⟩ | ⟨x, l, c, zs, hcs, _, hl, hm, hz, _, hcell, hwz⟩
    · simp [Value.cells] at hcs
      obtain ⟨rfl, rfl, rfl⟩ := hcs
      exact ⟨[], .inl ⟨rfl, rfl, rfl, rfl⟩⟩
    · simp [Value.cells] at hcs
      obtain ⟨rfl, rfl, rfl⟩ := hcs
      exact ⟨zs, .inr ⟨_, rfl, hl, hm, by simpa using hz, hcell, hwz⟩⟩
  obtain ⟨a1, rfl, rfl, rfl, w1⟩ := open_int Try.underlying3 (hval 1 3 v1 rfl rfl) h1
  clear hA0 hval0
  refine (walk a0 len0 cap0 z0 a1 W w0 w1).mono fun e W' ⟨he, bel⟩ => ?_
  subst he
  exact ⟨_, rfl, _, _, _, [], _, [], hW', trodAll_mk1 (shut_bool Try.underlying4 _), (trodAll_cons_mk (Below.trod laidOut (by kernel_rfl) (of_decide_eq_true (by kernel_rfl)) k0 bel lt0) (trodAll_cons_mk (shut_int Try.underlying3 w1) trodAll_mk0)), rfl, bel.frame _, fun h => by cases h⟩

theorem over : Rows.fnIsNullOneBytePutInCompletesNullRow.holds Try.pinned (OpenSpec.ofChange Rows.fnIsNullOneBytePutInCompletesNullSpec) :=
  OpenClaim.holds_of_wide 3 Try.f3 rfl rfl rfl rfl rfl rfl rfl ⟨rfl, rfl, rfl, rfl, rfl⟩ rfl rfl rfl rfl rfl (by kernel_rfl) Try.func3 (by kernel_rfl)
    (of_decide_eq_true (by kernel_rfl)) (by unfold Func.isWrapper; first | (rw [if_pos (by decide +kernel)]; kernel_rfl) | (rw [if_neg (by decide +kernel)]; exact ⟨rfl, rfl⟩))
    (fun os started H enc _ => lifted os started H enc)

end Go.Proofs.Qxb6618967a.fnIsNullOneBytePutInCompletesNull

namespace Go.Proofs.Qxb6618967a
/-- THE STATEMENT -/
theorem putIn_proved : Rows.FnIsNullOneBytePutInCompletesNullSaid := fnIsNullOneBytePutInCompletesNull.over
end Go.Proofs.Qxb6618967a
