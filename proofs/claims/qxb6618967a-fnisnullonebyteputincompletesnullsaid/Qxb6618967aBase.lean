import Derived.Test.Qxb6618967aRows
import Derived.WalkKit
import Derived.ProofKit
import Derived.WalkSpells
namespace Go.Proofs.Qxb6618967a
open Go.RowKit

theorem ret_bool {a b : Bool} (h : a = b) : Ending.returned (.bool a) = .returned (.bool b) := by rw [h]

theorem bytes8 (a : Option Addr) (n c : Nat) (w : World) (hn : n ≤ 9223372036854775807) :
    Calls Try.prog 8 #[.slice a n c] w fun e w' => e = .returned (.bool (decide (n ≤ 1048576))) ∧ w' = w := by
  by_cases h : n ≤ 1048576
  · go_enter Try.func8, Try.ntmps8
    go_wp2
    go_ret
    exact ⟨by simp [h], rfl⟩
  · go_enter Try.func8, Try.ntmps8
    go_wp2
    go_ret
    exact ⟨by simp [h], rfl⟩

theorem bytes5 (a : Option Addr) (n c : Nat) (p : Int) (w : World) (hn : n ≤ 9223372036854775807) :
    Calls Try.prog 5 #[.slice a n c, .int .i64 p] w fun e w' => e = .returned (.bool (decide (n ≤ 1048576))) ∧ w' = w := by
  by_cases h : n ≤ 1048576
  · go_enter Try.func5, Try.ntmps5
    go_wp2
    go_ret
    exact ⟨by simp [h], rfl⟩
  · go_enter Try.func5, Try.ntmps5
    go_wp2
    go_ret
    exact ⟨by simp [h], rfl⟩

/-- The four bytes of the text 'null'. -/
def nulls : List Int := [110, 117, 108, 108]
def nullB (zs : List Int) : Bool := zs == nulls

theorem byte_inj {a b : Int} (ha : 0 ≤ a ∧ a ≤ 255) (hb : 0 ≤ b ∧ b ≤ 255) (h : UInt8.ofNat a.toNat = UInt8.ofNat b.toNat) : a = b := by
  have := congrArg UInt8.toNat h
  simp only [UInt8.toNat_ofNat'] at this
  omega

theorem bytes_inj : ∀ (xs ys : List Int), (∀ z ∈ xs, 0 ≤ z ∧ z ≤ 255) → (∀ z ∈ ys, 0 ≤ z ∧ z ≤ 255) →
    (xs.map fun n => UInt8.ofNat n.toNat) = (ys.map fun n => UInt8.ofNat n.toNat) → xs = ys
  | [], [], _, _, _ => rfl
  | [], _ :: _, _, _, h => by simp at h
  | _ :: _, [], _, _, h => by simp at h
  | x :: xs, y :: ys, hx, hy, h => by
    simp only [List.map_cons, List.cons.injEq] at h
    rw [byte_inj (hx x (by simp)) (hy y (by simp)) h.1, bytes_inj xs ys (fun z hz => hx z (by simp [hz])) (fun z hz => hy z (by simp [hz])) h.2]

theorem str_null (zs : List Int) (hw : ∀ z ∈ zs, 0 ≤ z ∧ z ≤ 255) : ((strOfNums zs).toList == [110, 117, 108, 108]) = nullB zs := by
  rw [ByteArray.toList_eq, strOfNums_data, nullB, Bool.eq_iff_iff, beq_iff_eq, beq_iff_eq]
  constructor
  · intro h
    refine bytes_inj zs nulls hw (by decide) ?_
    rw [h]; decide
  · rintro rfl; decide

theorem isNull_some (b off n c : Nat) (zs : List Int) (w : World) (hz : zs.length = n) (hw : ∀ z ∈ zs, 0 ≤ z ∧ z ≤ 255)
    (hcell : ∀ i, i < n → w.cell? ⟨b, off + i, none⟩ = some (.int .u8 (zs.getD i 0))) :
    Calls Try.prog 7 #[.slice (some ⟨b, off, none⟩) n c] w fun e w' => e = .returned (.bool (nullB zs)) ∧ w' = w := by
  have hr := run_convert_bytes_arg (P := Try.prog) w 28 5 Try.underlying28 Try.underlying5 b off n c zs hz hcell 9 Try.underlying9
  go_enter Try.func7, Try.ntmps7
  go_wp2
  go_ret
  exact ⟨ret_bool (str_null zs hw), rfl⟩

theorem isNull_none (w : World) :
    Calls Try.prog 7 #[.slice none 0 0] w fun e w' => e = .returned (.bool false) ∧ w' = w := by
  have hr := run_convert_bytes_nil (P := Try.prog) w 28 5 Try.underlying28 Try.underlying5 0 0 9 Try.underlying9
  go_enter Try.func7, Try.ntmps7
  go_wp2
  go_ret
  exact ⟨rfl, rfl⟩

theorem Try.info5 : (Try.prog.info? 5).map (fun i => (i.zero, i.size, i.bytes)) = some (some (.int .u8 0), 1, 1) := by kernel_rfl

/-- zzClone of nil is nil. -/
theorem clone_nil (w : World) : Calls Try.prog 9 #[.slice none 0 0] w fun e w' => e = .returned (.slice none 0 0) ∧ w' = w := by
  have q22 : ∀ (w : World) (a : Option Addr) (n c n' c' : Nat), (binOp .eql 22 (.slice a n c) (.slice none n' c')).run Try.prog w = .ok (.bool a.isNone) w := fun w a n c n' c' => Lib.run_eql_slice_nil w _ _ a n c n' c' Try.underlying22
  go_enter Try.func9, Try.ntmps9
  go_wp2
  go_ret
  exact ⟨rfl, rfl⟩

/-- What zzClone's new row holds behind k rounds. -/
def part (zs : List Int) (n k : Nat) : List Value := (zs.take k).map (Value.int .u8) ++ List.replicate (n - k) (.int .u8 0)
theorem part_len (zs : List Int) (n k : Nat) (hz : zs.length = n) (hk : k ≤ n) : (part zs n k).length = n := by simp [part]; omega
theorem part_step (zs : List Int) (n k : Nat) (hz : zs.length = n) (hk : k < n) : (part zs n k).set k (.int .u8 (zs.getD k 0)) = part zs n (k + 1) := by
  have e : n - k = (n - (k + 1)) + 1 := by omega
  have hl : ((zs.take k).map (Value.int .u8)).length = k := by simp; omega
  unfold part
  rw [List.set_append_right _ _ (by omega), hl, Nat.sub_self, e, List.replicate_succ, List.set_cons_zero, List.take_succ_eq_append_getElem (by omega), List.map_append, List.append_assoc]
  simp [List.getD, hz, hk]
theorem part_end (zs : List Int) (n : Nat) (hz : zs.length = n) : part zs n n = zs.map (Value.int .u8) := by
  simp [part, List.take_of_length_le (Nat.le_of_eq hz)]

/-- zzClone of a slice that is not nil: a new row with the same numbers. -/
theorem clone_some (b off n c : Nat) (zs : List Int) (w : World) (hn : n ≤ 1048576) (hz : zs.length = n) (hb : b < w.heap.size)
    (hcell : ∀ i, i < n → w.cell? ⟨b, off + i, none⟩ = some (.int .u8 (zs.getD i 0))) :
    Calls Try.prog 9 #[.slice (some ⟨b, off, none⟩) n c] w fun e w' => e = .returned (.slice (some ⟨w.heap.size, 0, none⟩) n n) ∧
      w'.ownsRow w.heap.size 5 1 (.slice (some ⟨w.heap.size, 0, none⟩) n n) n (zs.map (Value.int .u8)) ∧ Below w.heap.size w w' := by
  obtain ⟨i0, hi, hz0, hz1, hz2⟩ := info_parts Try.info5
  have q22 : ∀ (w : World) (a : Option Addr) (n c n' c' : Nat), (binOp .eql 22 (.slice a n c) (.slice none n' c')).run Try.prog w = .ok (.bool a.isNone) w := fun w a n c n' c' => Lib.run_eql_slice_nil w _ _ a n c n' c' Try.underlying22
  go_enter Try.func9, Try.ntmps9
  go_wp2_with (at_make; refine wpList_make_full _ rfl _ _ 22 rfl w.heap.size 5 i0 (.int .u8 0) 1 Try.underlying22 hi hz0 hz1 _ _ _ _ n rfl rfl rfl rfl (by rw [hz2]; omega) (by unfold maxLen; omega) (Nat.le_refl _) ?_; intro w1 hown hgrow)
  go_loopw [4] (fun i wr => ∃ k : Nat, k ≤ n ∧ i = .int .i64 k ∧ wr.ownsRow w.heap.size 5 1 (.slice (some ⟨w.heap.size, 0, none⟩) n n) n (part zs n k) ∧ Below w.heap.size w wr) (fun i _ => n - (intOf i).toNat)
  case atStart =>
    refine ⟨0, Nat.zero_le _, rfl, ?_, (Below.refl _ _).grown hgrow (Nat.le_refl _) (fun k h => by cases h)⟩
    have e : (madeCells (Value.int .u8 0).cells (n * 1)).toList = part zs n 0 := by
      rw [show (Value.int .u8 0).cells = #[Value.int .u8 0] from rfl, toList_madeCells_one]; simp [part]
    rw [← e]; exact hown
  case round =>
    obtain ⟨k, hk, rfl, ho, hbel⟩ := hrel
    by_cases hlt : k < n
    · have hc1 : wr.cell? ⟨b, off + k, none⟩ = some (.int .u8 (zs.getD k 0)) := (hbel.cell hb).trans (hcell k hlt)
      have hl := part_len zs n k hz hk
      have hc2 : wr.cell? ⟨w.heap.size, k, none⟩ = some ((part zs n k)[k]'(by omega)) := by rw [ho.cellAt k (by omega)]; exact List.getElem?_eq_getElem _
      have hf2 := ho.frozenAt k
      have hst := ho.stored k (.int .u8 (zs.getD k 0))
      rw [part_step zs n k hz hlt] at hst
      have HST := hst
      clear hst hown hgrow
      generalize zs.getD k 0 = x at hc1 HST
      go_wp2
      go_roundw
      case rel => exact ⟨k + 1, by omega, by go_num, HST.1, hbel.setCell (Nat.le_refl _) _⟩
      case measure => simp [intOf]; omega
    · have : k = n := by omega
      subst this
      go_wp2
      go_ret
      exact ⟨rfl, by rw [← part_end zs k hz]; exact ho, hbel⟩

/-- zzClone of an empty slice that is not nil: a new empty row. -/
theorem clone_empty (x : Addr) (c : Nat) (w : World) :
    Calls Try.prog 9 #[.slice (some x) 0 c] w fun e w' => e = .returned (.slice (some ⟨w.heap.size, 0, none⟩) 0 0) ∧ Below w.heap.size w w' := by
  obtain ⟨i0, hi, hz0, hz1, hz2⟩ := info_parts Try.info5
  have q22 : ∀ (w : World) (a : Option Addr) (n c n' c' : Nat), (binOp .eql 22 (.slice a n c) (.slice none n' c')).run Try.prog w = .ok (.bool a.isNone) w := fun w a n c n' c' => Lib.run_eql_slice_nil w _ _ a n c n' c' Try.underlying22
  go_enter Try.func9, Try.ntmps9
  go_wp2_with (at_make; refine wpList_make_full _ rfl _ _ 22 rfl w.heap.size 5 i0 (.int .u8 0) 1 Try.underlying22 hi hz0 hz1 _ _ _ _ 0 rfl rfl rfl rfl (by rw [hz2]; omega) (by unfold maxLen; omega) (Nat.le_refl _) ?_; intro w1 hown hgrow)
  refine wp_loop_rounds 1 ?_
  rw [rounds_succ]
  go_wp2
  go_ret
  exact ⟨rfl, (Below.refl _ _).grown hgrow (Nat.le_refl _) (fun k h => by cases h)⟩

/-- A row that came in, with an element: its first block lies below the heap's end; its cells. -/
theorem row_open {w : World} {x : Addr} {n : Nat} {zs : List Int} (hn : 0 < n) (hz : n ≤ zs.length)
    (hcell : ∀ i, i < zs.length → w.cell? (x.add i) = some (.int .u8 (zs.getD i 0))) :
    ∃ b off, x = ⟨b, off, none⟩ ∧ b < w.heap.size ∧ ∀ i, i < n → w.cell? ⟨b, off + i, none⟩ = some (.int .u8 ((zs.take n).getD i 0)) := by
  obtain ⟨b, off, spot⟩ := x
  have hc := hcell 0 (by omega)
  have hspot : spot = none := by simpa [Addr.add] using World.cell?_spot hc
  subst hspot
  refine ⟨b, off, rfl, ?_, fun i hi => ?_⟩
  · rcases Nat.lt_or_ge b w.heap.size with h | h
    · exact h
    · simp [Addr.add, World.cell?, Array.getElem?_eq_none h] at hc
  · have := hcell i (by omega)
    rw [Addr.add_lit] at this
    rw [this]
    simp [List.getD, hi]
end Go.Proofs.Qxb6618967a
