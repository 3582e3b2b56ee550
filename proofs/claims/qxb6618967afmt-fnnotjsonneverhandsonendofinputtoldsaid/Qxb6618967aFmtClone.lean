/-
  zzClone, zzBytes_.., notJSON and the four small callers.
-/
import Derived.Test.Qxb6618967aFmtStray
import Derived.ProofKit
import Derived.Deep.AppendLies
namespace Go.Proofs.Qxb6618967aFmt
open Go Go.RowKit Go.Extern.Stop Go.Stop Go.Extern

theorem Tryf.info5 : (Tryf.prog.info? 5).map (fun i => (i.zero, i.size, i.bytes)) = some (some (.int .u8 0), 1, 1) := by kernel_rfl

/-- zzClone of nil is nil. -/
theorem clone_nil (w : World) : Calls Tryf.prog 5 #[.slice none 0 0] w fun e w' => e = .returned (.slice none 0 0) ∧ w' = w := by
  have q22 : ∀ (w : World) (a : Option Addr) (n c n' c' : Nat), (binOp .eql 22 (.slice a n c) (.slice none n' c')).run Tryf.prog w = .ok (.bool a.isNone) w := fun w a n c n' c' => Lib.run_eql_slice_nil w _ _ a n c n' c' Tryf.underlying22
  go_enter Tryf.func5, Tryf.ntmps5
  go_wp2
  go_ret
  exact ⟨rfl, rfl⟩

/-- What zzClone's new row holds behind k rounds. -/
def part (zs : List Int) (n k : Nat) : List Value := (zs.take k).map (Value.int .u8) ++ List.replicate (n - k) (.int .u8 0)
theorem part_len (zs : List Int) (n k : Nat) (hz : zs.length = n) (hk : k ≤ n) : (part zs n k).length = n := by simp [part]; omega
theorem part_step (zs : List Int) (n k : Nat) (hz : zs.length = n) (hk : k < n) : (part zs n k).set k (.int .u8 (zs.getD k 0)) = part zs n (k + 1) := by
  have e : n - k = (n - (k + 1)) + 1 := by omega
  have hl : ((zs.take k).map (Value.int .u8)).length = k := by simp; omega
  unfold part
  rw [List.set_append_right _ _ (by omega), hl, Nat.sub_self, e, List.replicate_succ, List.set_cons_zero, List.take_succ_eq_append_getElem (by omega), List.map_append, List.append_assoc]
  simp [List.getD, hz, hk]
theorem part_end (zs : List Int) (n : Nat) (hz : zs.length = n) : part zs n n = zs.map (Value.int .u8) := by
  simp [part, List.take_of_length_le (Nat.le_of_eq hz)]

/-- zzClone of a slice that is not nil: a new row with the same numbers. -/
theorem clone_some (b off n c : Nat) (zs : List Int) (w : World) (hn : n ≤ 1048576) (hz : zs.length = n) (hb : b < w.heap.size)
    (hcell : ∀ i, i < n → w.cell? ⟨b, off + i, none⟩ = some (.int .u8 (zs.getD i 0))) :
    Calls Tryf.prog 5 #[.slice (some ⟨b, off, none⟩) n c] w fun e w' => e = .returned (.slice (some ⟨w.heap.size, 0, none⟩) n n) ∧
      w'.ownsRow w.heap.size 5 1 (.slice (some ⟨w.heap.size, 0, none⟩) n n) n (zs.map (Value.int .u8)) ∧ Below w.heap.size w w' := by
  obtain ⟨i0, hi, hz0, hz1, hz2⟩ := info_parts Tryf.info5
  have q22 : ∀ (w : World) (a : Option Addr) (n c n' c' : Nat), (binOp .eql 22 (.slice a n c) (.slice none n' c')).run Tryf.prog w = .ok (.bool a.isNone) w := fun w a n c n' c' => Lib.run_eql_slice_nil w _ _ a n c n' c' Tryf.underlying22
  go_enter Tryf.func5, Tryf.ntmps5
  go_wp2_with (at_make; refine wpList_make_full _ rfl _ _ 22 rfl w.heap.size 5 i0 (.int .u8 0) 1 Tryf.underlying22 hi hz0 hz1 _ _ _ _ n rfl rfl rfl rfl (by rw [hz2]; omega) (by unfold maxLen; omega) (Nat.le_refl _) ?_; intro w1 hown hgrow)
  go_loopw [4] (fun i wr => ∃ k : Nat, k ≤ n ∧ i = .int .i64 k ∧ wr.ownsRow w.heap.size 5 1 (.slice (some ⟨w.heap.size, 0, none⟩) n n) n (part zs n k) ∧ Below w.heap.size w wr) (fun i _ => n - (intOf i).toNat)
  case atStart =>
    refine ⟨0, Nat.zero_le _, rfl, ?_, (Below.refl _ _).grown hgrow (Nat.le_refl _) (fun k h => by cases h)⟩
    have e : (madeCells (Value.int .u8 0).cells (n * 1)).toList = part zs n 0 := by
      rw [show (Value.int .u8 0).cells = #[Value.int .u8 0] from rfl, toList_madeCells_one]; simp [part]
    rw [← e]; exact hown
  case round =>
    obtain ⟨k, hk, rfl, ho, hbel⟩ := hrel
    by_cases hlt : k < n
    · have hc1 : wr.cell? ⟨b, off + k, none⟩ = some (.int .u8 (zs.getD k 0)) := (hbel.cell hb).trans (hcell k hlt)
      have hl := part_len zs n k hz hk
      have hc2 : wr.cell? ⟨w.heap.size, k, none⟩ = some ((part zs n k)[k]'(by omega)) := by rw [ho.cellAt k (by omega)]; exact List.getElem?_eq_getElem _
      have hf2 := ho.frozenAt k
      have hst := ho.stored k (.int .u8 (zs.getD k 0))
      rw [part_step zs n k hz hlt] at hst
      have HST := hst
      clear hst hown hgrow
      generalize zs.getD k 0 = x at hc1 HST
      go_wp2
      go_roundw
      case rel => exact ⟨k + 1, by omega, by go_num, HST.1, hbel.setCell (Nat.le_refl _) _⟩
      case measure => simp [intOf]; omega
    · have : k = n := by omega
      subst this
      go_wp2
      go_ret
      exact ⟨rfl, by rw [← part_end zs k hz]; exact ho, hbel⟩

/-- zzClone of an empty slice that is not nil: a new empty row. -/
theorem clone_empty (x : Addr) (c : Nat) (w : World) :
    Calls Tryf.prog 5 #[.slice (some x) 0 c] w fun e w' => e = .returned (.slice (some ⟨w.heap.size, 0, none⟩) 0 0) ∧ Below w.heap.size w w' := by
  obtain ⟨i0, hi, hz0, hz1, hz2⟩ := info_parts Tryf.info5
  have q22 : ∀ (w : World) (a : Option Addr) (n c n' c' : Nat), (binOp .eql 22 (.slice a n c) (.slice none n' c')).run Tryf.prog w = .ok (.bool a.isNone) w := fun w a n c n' c' => Lib.run_eql_slice_nil w _ _ a n c n' c' Tryf.underlying22
  go_enter Tryf.func5, Tryf.ntmps5
  go_wp2_with (at_make; refine wpList_make_full _ rfl _ _ 22 rfl w.heap.size 5 i0 (.int .u8 0) 1 Tryf.underlying22 hi hz0 hz1 _ _ _ _ 0 rfl rfl rfl rfl (by rw [hz2]; omega) (by unfold maxLen; omega) (Nat.le_refl _) ?_; intro w1 hown hgrow)
  refine wp_loop_rounds 1 ?_
  rw [rounds_succ]
  go_wp2
  go_ret
  exact ⟨rfl, (Below.refl _ _).grown hgrow (Nat.le_refl _) (fun k h => by cases h)⟩

/-- A slice of bytes in memory: empty, or at an address with its cells. -/
def BytesAt (w : World) (ao : Option Addr) (n : Nat) (zs : List Int) : Prop :=
  zs.length = n ∧ (n ≤ 0 ∨ (0 < n ∧ ∃ b off, ao = some ⟨b, off, none⟩ ∧ b < w.heap.size ∧ ∀ i, i < n → w.cell? ⟨b, off + i, none⟩ = some (.int .u8 (zs.getD i 0))))

theorem BytesAt.below {w w' : World} {ao : Option Addr} {n : Nat} {zs : List Int} (h : BytesAt w ao n zs) (hb : Below w.heap.size w w') : BytesAt w' ao n zs := by
  obtain ⟨h1, h2⟩ := h
  refine ⟨h1, ?_⟩
  rcases h2 with h2 | ⟨h0, b, off, ha, hlt, hc⟩
  · exact .inl h2
  · exact .inr ⟨h0, b, off, ha, Nat.lt_of_lt_of_le hlt hb.size, fun i hi => (hb.cell (p := ⟨b, off + i, none⟩) hlt).trans (hc i hi)⟩

/-- zzClone: a slice of the same bytes, no longer than her capacity. -/
theorem clone (ao : Option Addr) (n c : Nat) (zs : List Int) (w : World) (hn : n ≤ 1048576) (hnil : ao = none → n = 0 ∧ c = 0) (h : BytesAt w ao n zs) :
    Calls Tryf.prog 5 #[.slice ao n c] w fun e w' => ∃ a, e = .returned (.slice a n n) ∧ BytesAt w' a n zs ∧ Below w.heap.size w w' := by
  obtain ⟨h1, h2⟩ := h
  rcases h2 with h2 | ⟨h0, b, off, rfl, hlt, hc⟩
  · obtain rfl : n = 0 := by omega
    cases ao with
    | none =>
      obtain ⟨_, rfl⟩ := hnil rfl
      refine (clone_nil w).mono ?_
      rintro e w' ⟨rfl, rfl⟩
      exact ⟨none, rfl, ⟨h1, .inl (Nat.le_refl _)⟩, Below.refl _ _⟩
    | some x =>
      refine (clone_empty x c w).mono ?_
      rintro e w' ⟨rfl, hb⟩
      exact ⟨_, rfl, ⟨h1, .inl (Nat.le_refl _)⟩, hb⟩
  · refine (clone_some b off n c zs w hn h1 hlt hc).mono ?_
    rintro e w' ⟨rfl, ho, hb⟩
    refine ⟨_, rfl, ⟨h1, .inr ⟨h0, w.heap.size, 0, rfl, ?_, fun i hi => ?_⟩⟩, hb⟩
    · obtain ⟨g, cap, hv, _, hlt'⟩ := ho.form h0
      cases hv
      exact hlt'
    · rw [Nat.zero_add, ho.cellAt i (by omega)]
      simp [List.getD, h1, hi]

theorem strayAny (F : Interp) (s : ByteArray) (ao : Option Addr) (n : Nat) (zs : List Int) (w : World) (hF : F.answers w.tape) (hn : n ≤ 1048576) (h : BytesAt w ao n zs) :
    Calls Tryf.prog 12 #[.string s, .slice ao n n] w fun e w' => (e = .returned .nilIface ∨ ∃ v, e = .returned v ∧ NewErr w.heap.size w' v) ∧ Below w.heap.size w w' := by
  obtain ⟨h1, h2⟩ := h
  rcases h2 with h2 | ⟨h0, b, off, rfl, hlt, hc⟩
  · obtain rfl : n = 0 := by omega
    refine (stray_empty s ao 0 w).mono ?_
    rintro e w' ⟨rfl, rfl⟩
    exact ⟨.inl rfl, Below.refl _ _⟩
  · exact stray F s b off n n zs w hF hn (Nat.le_refl _) (by omega) h1 hlt hc

theorem bytes4 (s : ByteArray) (a : Option Addr) (n c : Nat) (w : World) (hs : s.size ≤ 9223372036854775807) (hn : n ≤ 9223372036854775807) :
    Calls Tryf.prog 4 #[.string s, .slice a n c] w fun e w' => SaysAny e ∧ w' = w := by
  go_enter Tryf.func4, Tryf.ntmps4
  go_wp2
  all_goals
    go_ret
    exact ⟨⟨_, rfl⟩, rfl⟩
end Go.Proofs.Qxb6618967aFmt
