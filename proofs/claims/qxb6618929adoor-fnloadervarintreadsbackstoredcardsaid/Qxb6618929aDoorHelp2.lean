/-
  zzSameStrings, zzVarintLen.
-/
import Derived.Test.Qxb6618929aDoorHelp
namespace Go.Proofs.Qxb6618929aDoor
open Go Go.RowKit

/-- zzSameStrings of two slices with the same strings, both nil or neither. -/
theorem sameStrings (a b : Option Addr) (n c c' : Nat) (ss : List ByteArray) (w : World) (hn : n ≤ 9223372036854775807) (hab : a.isNone = b.isNone) (ha : StrsAt w a n ss) (hb : StrsAt w b n ss) :
    Calls Tryd.prog 13 #[.slice a n c, .slice b n c'] w fun e w' => e = .returned (.bool true) ∧ Below w.heap.size w w' := by
  have q24 : ∀ (w : World) (a : Option Addr) (n c n' c' : Nat), (binOp .eql 24 (.slice a n c) (.slice none n' c')).run Tryd.prog w = .ok (.bool a.isNone) w := fun w a n c n' c' => Lib.run_eql_slice_nil w _ _ a n c n' c' Tryd.underlying24
  obtain ⟨_, _, _, hca⟩ := ha
  obtain ⟨_, _, _, hcb⟩ := hb
  have hnn : ((n : Int) != (n : Int)) = false := by simp
  by_cases h0 : 0 < n
  · obtain ⟨ba, oa, hla, rfl, hA⟩ := hca h0
    obtain ⟨bb, ob, hlb, rfl, hB⟩ := hcb h0
    clear hca hcb hab
    go_enter Tryd.func13, Tryd.ntmps13
    go_wp2
    go_loopw [5, 20] (fun _ i wr => ∃ k : Nat, k ≤ n ∧ i = .int .i64 k ∧ Below w.heap.size w wr) (fun _ i _ => n - (intOf i).toNat)
    case atStart => exact ⟨0, Nat.zero_le _, rfl, Below.refl _ _⟩
    case round =>
      obtain ⟨k, hk, rfl, hbel⟩ := hrel
      by_cases hlt : k < n
      · have h1 : wr.cell? ⟨ba, oa + k, none⟩ = some (.string (ss.getD k ByteArray.empty)) := (hbel.cell hla).trans (hA k hlt)
        have h2 : wr.cell? ⟨bb, ob + k, none⟩ = some (.string (ss.getD k ByteArray.empty)) := (hbel.cell hlb).trans (hB k hlt)
        have HB := hd hbel
        clear hA hB hbel
        generalize ss.getD k ByteArray.empty = s at h1 h2
        go_wp2_with fail
        go_quiet (fail)
        go_wp2
        go_roundw
        case rel => exact ⟨k + 1, by omega, by go_num, below_drewN HB.out _⟩
        case measure => simp [intOf]; omega
      · go_wp2
        go_ret
        exact ⟨rfl, hbel⟩
  · have h00 : n = 0 := by omega
    subst h00
    clear hca hcb
    cases hna : a.isNone
    all_goals
      have hnb : b.isNone = a.isNone := hab.symm
      rw [hna] at hnb
      go_enter Tryd.func13, Tryd.ntmps13
      go_wp2
      refine wp_loop_rounds 1 ?_
      rw [rounds_succ]
      go_wp2
      go_ret
      exact ⟨rfl, Below.refl _ _⟩

theorem ret_int {k : IntKind} {a b : Int} (h : a = b) : Ending.returned (.int k a) = .returned (.int k b) := by rw [h]

set_option maxRecDepth 100000 in
/-- zzVarintLen: the number of bytes of the varint. -/
theorem varintLen (x : Int) (w : World) (h0 : -9223372036854775808 ≤ x) (h1 : x ≤ 9223372036854775807) :
    Calls Tryd.prog 16 #[.int .i64 x] w fun e w' => e = .returned (.int .i64 (vb x).length) ∧ w = w' := by
  have hz := Lib.zigzag_lt h0 h1
  have hl := vb_len x h0 h1
  by_cases hneg : x < 0
  · have hzz := Lib.zigzag_neg h0 hneg
    go_enter Tryd.func16, Tryd.ntmps16
    go_wp2
    go_loop [3, 4] (fun u m => ∃ (y k : Nat), u = .int .u64 y ∧ m = .int .i64 k ∧ y < 18446744073709551616 ∧ 1 ≤ k ∧ k + (Lib.uvarint y).length = (vb x).length + 1) (fun u _ => (intOf u).toNat)
    case atStart => exact ⟨Lib.zigzag x, 1, rfl, rfl, hz, by omega, by unfold vb; omega⟩
    case round =>
      obtain ⟨y, k, rfl, rfl, hy, hk1, hkl⟩ := hrel
      have hyp := Lib.uvarint_pos y
      have HK := hd hkl
      have hk20 : k ≤ 20 := by omega
      clear hkl hzz
      by_cases h128 : 128 ≤ y
      · have e := congrArg List.length (Lib.uvarint_big h128)
        rw [List.length_cons] at e
        have HE := hd e
        clear e
        go_wp2
        go_round
        case rel => exact ⟨y / 128, k + 1, by go_num, by go_num, by omega, by omega, by have := HK.out; have := HE.out; omega⟩
        case measure => simp [intOf]; omega
      · have e := congrArg List.length (Lib.uvarint_small (show y < 128 by omega))
        have HE := hd e
        clear e
        go_wp2
        go_ret
        exact ⟨by have := HK.out; have := HE.out; simp at this; exact ret_int (by omega), rfl⟩
  · have hzz := Lib.zigzag_nonneg (show 0 ≤ x by omega)
    go_enter Tryd.func16, Tryd.ntmps16
    go_wp2
    go_loop [3, 4] (fun u m => ∃ (y k : Nat), u = .int .u64 y ∧ m = .int .i64 k ∧ y < 18446744073709551616 ∧ 1 ≤ k ∧ k + (Lib.uvarint y).length = (vb x).length + 1) (fun u _ => (intOf u).toNat)
    case atStart => exact ⟨Lib.zigzag x, 1, by rw [hzz], rfl, hz, by omega, by unfold vb; omega⟩
    case round =>
      obtain ⟨y, k, rfl, rfl, hy, hk1, hkl⟩ := hrel
      have hyp := Lib.uvarint_pos y
      have HK := hd hkl
      have hk20 : k ≤ 20 := by omega
      clear hkl hzz
      by_cases h128 : 128 ≤ y
      · have e := congrArg List.length (Lib.uvarint_big h128)
        rw [List.length_cons] at e
        have HE := hd e
        clear e
        go_wp2
        go_round
        case rel => exact ⟨y / 128, k + 1, by go_num, by go_num, by omega, by omega, by have := HK.out; have := HE.out; omega⟩
        case measure => simp [intOf]; omega
      · have e := congrArg List.length (Lib.uvarint_small (show y < 128 by omega))
        have HE := hd e
        clear e
        go_wp2
        go_ret
        exact ⟨by have := HK.out; have := HE.out; simp at this; exact ret_int (by omega), rfl⟩
end Go.Proofs.Qxb6618929aDoor
