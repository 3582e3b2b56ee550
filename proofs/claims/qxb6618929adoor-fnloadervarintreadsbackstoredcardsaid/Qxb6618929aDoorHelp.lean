/-
  THE LAWS' OWN HELPERS: zzGrow, zzVarintBytes, zzBytes.., zzCloneStrings, zzSameStrings, zzVarintLen.
-/
import Derived.Test.Qxb6618929aDoorDec
import Derived.Laws.CopyOwn
import Derived.BigQuiet
import Derived.Deep.DeepCutAuto
import Derived.Deep.QuietTactic
namespace Go.Proofs.Qxb6618929aDoor
open Go Go.RowKit

theorem hd {p : Prop} (h : p) : Hid p := h

/-- zzGrow at the widths 1, 8, 16: a number up to 1048577; 1048576 or less only where both parts were. -/
theorem grow_any (n c wd : Int) (hwd : wd = 1 ∨ wd = 8 ∨ wd = 16) (w : World) (h0 : 0 ≤ n) (h1 : n ≤ 1048577) (hc0 : 0 ≤ c) (hc1 : c ≤ 9223372036854775807) :
    Calls Tryd.prog 17 #[.int .i64 n, .int .i64 c, .int .i64 wd] w fun e w' => ∃ t : Int, e = .returned (.int .i64 t) ∧ 0 ≤ t ∧ t ≤ 1048577 ∧ (t ≤ 1048576 → n ≤ 1048576 ∧ c ≤ 1048576) ∧ w = w' := by
  rcases hwd with rfl | rfl | rfl
  all_goals
    go_enter Tryd.func17, Tryd.ntmps17
    go_wp2
    all_goals
      go_ret
      exact ⟨_, rfl, by omega, by omega, by omega, rfl⟩

/-- The strings that a slice of strings holds. -/
def StrsAt (w : World) (ao : Option Addr) (n : Nat) (ss : List ByteArray) : Prop :=
  ss.length = n ∧ (ao = none → n = 0) ∧ (∀ i, i < n → (ss.getD i ByteArray.empty).size ≤ 9223372036854775807) ∧
  (0 < n → ∃ b off, b < w.heap.size ∧ ao = some ⟨b, off, none⟩ ∧ ∀ i, i < n → w.cell? ⟨b, off + i, none⟩ = some (.string (ss.getD i ByteArray.empty)))

/-- It answers a bool, and true only where Y. -/
def SaysB (e : Ending) (Y : Prop) : Prop := ∃ r : Bool, e = .returned (.bool r) ∧ (r = true → Y)
/-- It answers a number from 0 to 1048577, and 1048576 or less only where Y. -/
def SaysN (e : Ending) (Y : Prop) : Prop := ∃ t : Int, e = .returned (.int .i64 t) ∧ 0 ≤ t ∧ t ≤ 1048577 ∧ (t ≤ 1048576 → Y)

/-- zzBytes.. of the second law: true only where the strings are at most 1048576. -/
theorem bytes15 (v k : Int) (ao : Option Addr) (n c : Nat) (ss : List ByteArray) (w : World) (hn : n ≤ 9223372036854775807) (hs : StrsAt w ao n ss) :
    Calls Tryd.prog 15 #[.int .i64 v, .int .i64 k, .slice ao n c] w fun e w' => SaysB e (n ≤ 1048576) ∧ w = w' := by
  obtain ⟨hl, hnil, hsz, hcell⟩ := hs
  by_cases h1 : n ≤ 1048576
  · by_cases h0 : 0 < n
    · obtain ⟨b, off, hb, rfl, hcl⟩ := hcell h0
      go_enter Tryd.func15, Tryd.ntmps15
      go_wp2
      go_loop [7, 8] (fun t i => ∃ (k : Nat) (z : Int), k ≤ n ∧ i = .int .i64 k ∧ t = .int .i64 z ∧ 0 ≤ z ∧ z ≤ 1048576) (fun _ i => n - (intOf i).toNat)
      case atStart => exact ⟨0, n, Nat.zero_le _, rfl, rfl, by omega, by omega⟩
      case round =>
        obtain ⟨k, z, hk, rfl, rfl, hz0, hz1⟩ := hrel
        by_cases hlt : k < n
        · have hc := hcl k hlt
          have hss := hsz k hlt
          clear hcl hcell hsz
          generalize ss.getD k ByteArray.empty = s at hc hss
          go_wp2
          · go_ret
            exact ⟨⟨false, rfl, by simp⟩, rfl⟩
          · go_ret
            exact ⟨⟨false, rfl, by simp⟩, rfl⟩
          · go_round
            case rel => exact ⟨k + 1, _, by omega, by go_num, rfl, by omega, by omega⟩
            case measure => simp [intOf]; omega
        · go_wp2
          go_ret
          exact ⟨⟨true, rfl, fun _ => by first | exact h1 | trivial⟩, rfl⟩
    · have h00 : n = 0 := by omega
      subst h00
      go_enter Tryd.func15, Tryd.ntmps15
      go_wp2
      refine wp_loop_rounds 1 ?_
      rw [rounds_succ]
      go_wp2
      go_ret
      exact ⟨⟨true, rfl, fun _ => by first | exact h1 | trivial⟩, rfl⟩
  · clear hcell
    go_enter Tryd.func15, Tryd.ntmps15
    go_wp2
    go_ret
    exact ⟨⟨false, rfl, by simp⟩, rfl⟩

/-- zzVarintBytes: 1048576 or less only where the three lengths are. -/
theorem varintBytes (a1 : Option Addr) (n1 c1 : Nat) (a2 : Option Addr) (n2 c2 : Nat) (ao : Option Addr) (n c : Nat) (ss : List ByteArray) (w : World)
    (h1 : n1 ≤ 9223372036854775807) (h2 : n2 ≤ 9223372036854775807) (hn : n ≤ 9223372036854775807) (hs : StrsAt w ao n ss) :
    Calls Tryd.prog 6 #[.slice a1 n1 c1, .slice a2 n2 c2, .slice ao n c] w fun e w' => SaysN e (n1 ≤ 1048576 ∧ n2 ≤ 1048576 ∧ n ≤ 1048576) ∧ w = w' := by
  obtain ⟨hl, hnil, hsz, hcell⟩ := hs
  by_cases h0 : 0 < n
  · obtain ⟨b, off, hb, rfl, hcl⟩ := hcell h0
    go_enter Tryd.func6, Tryd.ntmps6
    go_wp2_with fail
    refine (grow_any _ _ _ (by omega) _ (by omega) (by omega) (by omega) (by omega)).mono ?_
    rintro e w1 ⟨t1, rfl, ht0, ht1, hty, rfl⟩
    go_wp2_with fail
    refine (grow_any _ _ _ (by omega) _ (by omega) (by omega) (by omega) (by omega)).mono ?_
    rintro e w1 ⟨t2, rfl, ht20, ht21, hty2, rfl⟩
    go_wp2_with fail
    refine (grow_any _ _ _ (by omega) _ (by omega) (by omega) (by omega) (by omega)).mono ?_
    rintro e w1 ⟨t3, rfl, ht30, ht31, hty3, rfl⟩
    have hY : t3 ≤ 1048576 → n1 ≤ 1048576 ∧ n2 ≤ 1048576 ∧ n ≤ 1048576 := by omega
    have HY : Hid (t3 ≤ 1048576 → n1 ≤ 1048576 ∧ n2 ≤ 1048576 ∧ n ≤ 1048576) := hY
    clear hY hty hty2 hty3 ht0 ht1 ht20 ht21
    go_wp2_with fail
    go_loop [7, 8, 22] (fun t _ i => ∃ (k : Nat) (z : Int), k ≤ n ∧ i = .int .i64 k ∧ t = .int .i64 z ∧ 0 ≤ z ∧ z ≤ 1048577 ∧ (z ≤ 1048576 → t3 ≤ 1048576)) (fun _ _ i => n - (intOf i).toNat)
    case atStart => exact ⟨0, t3, Nat.zero_le _, rfl, rfl, ht30, ht31, fun h => h⟩
    case round =>
      obtain ⟨k, z, hk, rfl, rfl, hz0, hz1, hzy⟩ := hrel
      have HZ : Hid (z ≤ 1048576 → t3 ≤ 1048576) := hzy
      clear hzy
      by_cases hlt : k < n
      · have hc := hcl k hlt
        have hss := hsz k hlt
        clear hcl hcell hsz
        generalize ss.getD k ByteArray.empty = s at hc hss
        by_cases hz : z ≤ 1048576
        · go_wp2_with fail
          refine (grow_any _ _ _ (by omega) _ (by omega) (by omega) (by omega) (by omega)).mono ?_
          rintro e w1 ⟨t4, rfl, ht40, ht41, hty4, rfl⟩
          have H4 : Hid (t4 ≤ 1048576 → z ≤ 1048576 ∧ (s.size : Int) ≤ 1048576) := hty4
          clear hty4
          go_wp2
          go_round
          case rel => exact ⟨k + 1, t4, by omega, by go_num, rfl, ht40, ht41, fun h => HZ.out (H4.out h).1⟩
          case measure => simp [intOf]; omega
        · go_wp2
          go_ret
          exact ⟨⟨z, rfl, hz0, hz1, fun h => by omega⟩, rfl⟩
      · go_wp2
        go_ret
        exact ⟨⟨z, rfl, hz0, hz1, fun h => HY.out (HZ.out h)⟩, rfl⟩
  · have h00 : n = 0 := by omega
    subst h00
    clear hcell
    go_enter Tryd.func6, Tryd.ntmps6
    go_wp2_with fail
    refine (grow_any _ _ _ (by omega) _ (by omega) (by omega) (by omega) (by omega)).mono ?_
    rintro e w1 ⟨t1, rfl, ht0, ht1, hty, rfl⟩
    go_wp2_with fail
    refine (grow_any _ _ _ (by omega) _ (by omega) (by omega) (by omega) (by omega)).mono ?_
    rintro e w1 ⟨t2, rfl, ht20, ht21, hty2, rfl⟩
    go_wp2_with fail
    refine (grow_any _ _ _ (by omega) _ (by omega) (by omega) (by omega) (by omega)).mono ?_
    rintro e w1 ⟨t3, rfl, ht30, ht31, hty3, rfl⟩
    have hY : t3 ≤ 1048576 → n1 ≤ 1048576 ∧ n2 ≤ 1048576 ∧ 0 ≤ 1048576 := by omega
    have HY : Hid (t3 ≤ 1048576 → n1 ≤ 1048576 ∧ n2 ≤ 1048576 ∧ 0 ≤ 1048576) := hY
    clear hY hty hty2 hty3 ht0 ht1 ht20 ht21
    go_wp2_with fail
    refine wp_loop_rounds 1 ?_
    rw [rounds_succ]
    go_wp2
    go_ret
    exact ⟨⟨t3, rfl, ht30, ht31, HY.out⟩, rfl⟩

theorem Tryd.info9 : (Tryd.prog.info? 9).map (fun i => (i.zero, i.size, i.bytes)) = some (some (.string ByteArray.empty), 1, 16) := by kernel_rfl
theorem Tryd.size9 : (Tryd.prog.info? 9).map (·.size) = some 1 := by kernel_rfl

/-- zzCloneStrings of nil. -/
theorem cloneStrings_nil (w : World) : Calls Tryd.prog 7 #[.slice none 0 0] w fun e w' => e = .returned (.slice none 0 0) ∧ w = w' := by
  have q24 : ∀ (w : World) (a : Option Addr) (n c n' c' : Nat), (binOp .eql 24 (.slice a n c) (.slice none n' c')).run Tryd.prog w = .ok (.bool a.isNone) w := fun w a n c n' c' => Lib.run_eql_slice_nil w _ _ a n c n' c' Tryd.underlying24
  go_enter Tryd.func7, Tryd.ntmps7
  go_wp2
  go_ret
  exact ⟨rfl, rfl⟩

/-- zzCloneStrings of a slice that is not nil: the same strings in a new row. -/
theorem cloneStrings_some (x : Addr) (n c : Nat) (ss : List ByteArray) (w : World) (hn : n ≤ 1048576) (hs : StrsAt w (some x) n ss) :
    Calls Tryd.prog 7 #[.slice (some x) n c] w fun e w' => e = .returned (.slice (some ⟨w.heap.size, 0, none⟩) n n) ∧ StrsAt w' (some ⟨w.heap.size, 0, none⟩) n ss ∧ Below w.heap.size w w' ∧ w.heap.size < w'.heap.size := by
  have q24 : ∀ (w : World) (a : Option Addr) (n c n' c' : Nat), (binOp .eql 24 (.slice a n c) (.slice none n' c')).run Tryd.prog w = .ok (.bool a.isNone) w := fun w a n c n' c' => Lib.run_eql_slice_nil w _ _ a n c n' c' Tryd.underlying24
  obtain ⟨i0, hi, hz0, hz1, hz2⟩ := info_parts Tryd.info9
  obtain ⟨hl, hnil, hsz, hcell⟩ := hs
  have HC := hd hcell
  have HS := hd hsz
  clear hcell hsz
  go_enter Tryd.func7, Tryd.ntmps7
  go_upto_region 4 with (at_make; refine wpList_make_full _ rfl _ _ 24 rfl w.heap.size 9 i0 (.string ByteArray.empty) 1 Tryd.underlying24 hi hz0 hz1 _ _ _ _ n rfl rfl rfl rfl (by rw [hz2]; omega) (by unfold maxLen; omega) (Nat.le_refl _) ?_; intro w1 hown hgrow)
  have hb1 : Below w.heap.size w w1 := (Below.refl _ _).grown hgrow (Nat.le_refl _) (fun k h => by cases h)
  obtain ⟨cur, hg⟩ : ∃ cur : List Value, w1.heap[w.heap.size]? = some (.cells cur.toArray 9 (0, 0)) ∧ cur.length = n := by
    rcases hown.2 with ⟨h, _⟩ | ⟨g, cap, cur, h, _, hg, _, _, hsz1, _⟩
    · simp at h
    · simp only [Value.slice.injEq, Option.some.injEq, Addr.mk.injEq, and_true, true_and] at h
      obtain ⟨rfl, rfl⟩ := h
      exact ⟨cur.toList, by simpa using hg, by simpa using hsz1⟩
  have HG := hd hg
  have HB := hd hb1
  clear hg hb1 hown hgrow
  have hlm : (ss.map Value.string).length = Nat.min n n := by simp [hl]
  have hlf : 0 + (ss.map Value.string).length ≤ cur.length := by simp [hl, HG.out.2]
  have hpos : 0 < (ss.map Value.string).length → (some (⟨w.heap.size, 0, none⟩ : Addr)) = some ⟨w.heap.size, 0, none⟩ ∧ ∃ ad, some x = some ad ∧ ∀ j v, (ss.map Value.string)[j]? = some v → w1.cell? (ad.add j) = some v := by
    intro h0
    obtain ⟨b, off, hb, hx, hcl⟩ := HC.out (by simpa [hl] using h0)
    refine ⟨rfl, _, rfl, fun j v hj => ?_⟩
    rw [Option.some.inj hx, Addr.add_lit]
    have hj' : j < n := by have := (List.getElem?_eq_some_iff.1 hj).1; simpa [hl] using this
    rw [(HB.out.cell (p := ⟨b, off + j, none⟩) hb), hcl j hj']
    simp [List.getElem?_eq_getElem (show j < ss.length by omega)] at hj
    simp [List.getD, List.getElem?_eq_getElem (show j < ss.length by omega), hj]
  have hone : ∀ v ∈ ss.map Value.string, v.oneCell' = true := by
    intro v hv
    obtain ⟨_, _, rfl⟩ := List.mem_map.1 hv
    rfl
  have HP := hd hpos
  have HO := hd hone
  have HLM := hd hlm
  have HLF := hd hlf
  clear hpos hone hlm hlf
  go_wp2_with (refine wpList_copy_splice rfl (.tmp 9) (.tmp 10) 24 24 rfl 9 Tryd.underlying24 Tryd.size9 _ _ _ _ _ _ rfl rfl w.heap.size 0 cur 9 HG.out.1 (ss.map Value.string) HLM.out HP.out HLF.out HO.out w.heap.size w HB.out (Nat.le_refl _) ?_)
  intro w2 HG2 hb2
  have HB2 := hd hb2
  clear hb2 HC
  go_wp2
  go_ret
  have hlt : w.heap.size < w2.heap.size := lt_heap HG2.out
  refine ⟨rfl, ⟨hl, by simp, HS.out, fun h0 => ⟨w.heap.size, 0, hlt, rfl, fun i hi => ?_⟩⟩, HB2.out, hlt⟩
  have e : splice cur 0 (ss.map Value.string) = ss.map Value.string := by
    have := HG.out.2
    simp [splice, List.drop_eq_nil_of_le (show cur.length ≤ ss.length by omega)]
  have := HG2.out
  rw [e] at this
  rw [Nat.zero_add, cell_of_row w2 w.heap.size i _ 9 (0, 0) this]
  simp [List.getD, List.getElem?_eq_getElem (show i < ss.length by omega)]
end Go.Proofs.Qxb6618929aDoor
