/-
  A PROOF OF 'Rows.FnIsNullAcceptsOnlyTheFourBytePrefixNullSaid'. The frame is the seat's given shell (proof-skeleton.mjs); the walk is typed here.
-/
import Derived.Test.Qxb6618967aBase
import Derived.WalkKit
import Derived.ProofKit
import Derived.OpenShut
import Derived.ShutString
import Derived.ChangeOld
import Derived.Below
namespace Go.Proofs.Qxb6618967a.fnIsNullAcceptsOnlyTheFourBytePrefixNull
open Go.ChangeShapes Go.WideShapes Go.ChangeAt Go.RowKit
open Go.ChangeMaps (open_string shut_string)
set_option linter.unusedVariables false

theorem own : ownKnob Try.prog.godebug = none := by kernel_rfl
theorem laidOut : laidOutB Try.prog = true := by kernel_rfl

/-- WHAT THE WALK IS TOLD OF A SLICE OF INTEGERS THAT CAME IN: it is nil; or it leads to a row of 'cap' cells, the numbers 'zs' (the first 'len' are its elements, the rest its spare room), each fitting its kind. -/
def IsRow (k : IntKind) (w : World) (a : Option Addr) (len cap : Nat) (zs : List Int) : Prop :=
  (a = none ∧ len = 0 ∧ cap = 0 ∧ zs = []) ∨
  ∃ x, a = some x ∧ len ≤ cap ∧ cap ≤ maxLen ∧ zs.length = cap ∧ (∀ i, i < zs.length → w.cell? (x.add i) = some (.int k (zs.getD i 0))) ∧ ∀ n ∈ zs, (Lit.int k n).wf = true

/-! ### STEP 1: THE WALK -/
def hasB (zs : List Int) (n : Nat) : Bool := decide (4 ≤ n) && nullB (zs.take 4)
def cnt (h : Bool) (k : Nat) : Int := if h && decide (4 < k) then 1 else 0
def att (h : Bool) (k : Nat) : Int := if h && decide (4 < k) then 4 else -1

theorem null_take (zs : List Int) (n k : Nat) (hz : n ≤ zs.length) (hk : k ≤ n) : nullB (zs.take k) = (hasB zs n && decide (k = 4)) := by
  by_cases h4 : k = 4
  · subst h4; simp [hasB, hk]
  · have : nullB (zs.take k) = false := by
      unfold nullB
      rw [beq_eq_false_iff_ne]
      intro h
      have := congrArg List.length h
      simp [nulls] at this
      omega
    simp [this, h4]

theorem cnt_bd (h : Bool) (k : Nat) : 0 ≤ cnt h k ∧ cnt h k ≤ 1 := by unfold cnt; split <;> omega
theorem cnt_hit (k : Nat) (h : Bool) (e : (h && decide (k = 4)) = true) : cnt h k + 1 = cnt h (k + 1) ∧ (k : Int) = att h (k + 1) := by
  simp at e; obtain ⟨rfl, rfl⟩ := e; decide
theorem cnt_miss (k : Nat) (h : Bool) (e : (h && decide (k = 4)) = false) : cnt h k = cnt h (k + 1) ∧ att h k = att h (k + 1) := by
  cases h
  · simp [cnt, att]
  · simp at e
    have : (4 < k + 1) ↔ (4 < k) := by omega
    simp [cnt, att, this]

theorem has_of4 (x0 x1 x2 x3 : Int) (r : List Int) (n : Nat) (h : 4 ≤ n) : hasB (x0 :: x1 :: x2 :: x3 :: r) n = (x0 == 110 && (x1 == 117 && (x2 == 108 && x3 == 108))) := by
  simp [hasB, h, nullB, nulls]

theorem four {zs : List Int} (h : 4 ≤ zs.length) : ∃ x0 x1 x2 x3 r, zs = x0 :: x1 :: x2 :: x3 :: r := by
  match zs, h with
  | x0 :: x1 :: x2 :: x3 :: r, _ => exact ⟨x0, x1, x2, x3, r, rfl⟩

theorem att_end (h : Bool) (n : Nat) (hh : h = true → 4 ≤ n) : cnt h (n + 1) = (if h then 1 else 0) ∧ att h (n + 1) = (if h then 4 else -1) := by
  cases h
  · simp [cnt, att]
  · have := hh rfl
    simp [cnt, att, show 4 < n + 1 by omega]

/-- The walk at a slice that is not nil. -/
theorem walk_some (b off n c : Nat) (zs : List Int) (w : World) (hz : zs.length = n) (hb : b < w.heap.size) (hw : ∀ z ∈ zs, 0 ≤ z ∧ z ≤ 255)
    (hmax : n ≤ 9223372036854775807)
    (hcell : ∀ i, i < n → w.cell? ⟨b, off + i, none⟩ = some (.int .u8 (zs.getD i 0))) :
    Calls Try.prog 4 #[.slice (some ⟨b, off, none⟩) n c] w fun e w' => e = .returned (.bool true) ∧ Below w.heap.size w w' := by
  by_cases h1 : n ≤ 4096
  · have hd : decide (n ≤ 1048576) = true := by simp; omega
    have hgt : decide ((4096 : Int) < (n : Int)) = false := by simp; omega
    have hcase : (n < 4 ∧ hasB zs n = false) ∨ (4 ≤ n ∧ ∃ x0 x1 x2 x3 : Int, w.cell? ⟨b, off, none⟩ = some (.int .u8 x0) ∧ w.cell? ⟨b, off + 1, none⟩ = some (.int .u8 x1) ∧
        w.cell? ⟨b, off + 2, none⟩ = some (.int .u8 x2) ∧ w.cell? ⟨b, off + 3, none⟩ = some (.int .u8 x3) ∧ hasB zs n = (x0 == 110 && (x1 == 117 && (x2 == 108 && x3 == 108)))) := by
      by_cases h4 : 4 ≤ n
      · obtain ⟨x0, x1, x2, x3, r, rfl⟩ := four (zs := zs) (by omega)
        exact .inr ⟨h4, x0, x1, x2, x3, by simpa using hcell 0 (by omega), by simpa using hcell 1 (by omega), by simpa using hcell 2 (by omega), by simpa using hcell 3 (by omega), has_of4 _ _ _ _ _ _ h4⟩
      · exact .inl ⟨by omega, by simp [hasB, h4]⟩
    have h4n : hasB zs n = true → 4 ≤ n := by intro h; simp [hasB] at h; exact h.1
    have HN := fun k hk => null_take zs n k (by omega) hk
    obtain ⟨hs, hsE⟩ : ∃ hs, hs = hasB zs n := ⟨_, rfl⟩
    rw [← hsE] at hcase h4n HN
    have key : (n < 4 ∧ hs = false) ∨ (4 ≤ n ∧ ∃ x0 x1 x2 x3 : Int, w.cell? ⟨b, off, none⟩ = some (.int .u8 x0) ∧ w.cell? ⟨b, off + 1, none⟩ = some (.int .u8 x1) ∧
        w.cell? ⟨b, off + 2, none⟩ = some (.int .u8 x2) ∧ w.cell? ⟨b, off + 3, none⟩ = some (.int .u8 x3) ∧
        ((hs = false ∧ (x0 == 110) = false) ∨ (hs = false ∧ (x0 == 110) = true ∧ (x1 == 117) = false) ∨ (hs = false ∧ (x0 == 110) = true ∧ (x1 == 117) = true ∧ (x2 == 108) = false) ∨
          (hs = false ∧ (x0 == 110) = true ∧ (x1 == 117) = true ∧ (x2 == 108) = true ∧ (x3 == 108) = false) ∨ (hs = true ∧ (x0 == 110) = true ∧ (x1 == 117) = true ∧ (x2 == 108) = true ∧ (x3 == 108) = true))) := by
      rcases hcase with h | ⟨h4, x0, x1, x2, x3, c0, c1, c2, c3, he⟩
      · exact .inl h
      · refine .inr ⟨h4, x0, x1, x2, x3, c0, c1, c2, c3, ?_⟩
        rw [he]
        cases (x0 == 110) <;> cases (x1 == 117) <;> cases (x2 == 108) <;> cases (x3 == 108) <;> simp
    clear hcase hsE
    rcases key with ⟨h4, he⟩ | ⟨h4, x0, x1, x2, x3, c0, c1, c2, c3, ⟨he, t0⟩ | ⟨he, t0, t1⟩ | ⟨he, t0, t1, t2⟩ | ⟨he, t0, t1, t2, t3⟩ | ⟨he, t0, t1, t2, t3⟩⟩
    all_goals
      have HE := att_end hs n h4n
      rw [he] at HE
      simp only [Bool.false_eq_true, if_false, if_true] at HE
      rw [← he] at HE
      go_enter Try.func4, Try.ntmps4
      go_wp2_with (go_at_call 8; refine (bytes8 _ _ _ _ hmax).mono ?_; rintro e w' ⟨rfl, rfl⟩)
      refine (clone_some b off n c zs _ (by omega) hz hb hcell).mono ?_
      rintro e w1 ⟨rfl, hown, hbel⟩
      have hc1 : ∀ i, i < n → w1.cell? ⟨w'.heap.size, 0 + i, none⟩ = some (.int .u8 (zs.getD i 0)) := by
        intro i hi
        rw [Nat.zero_add, hown.cellAt i (by omega)]
        simp [List.getD, hz, hi]
      have HC : Hid (∀ i, i < n → w1.cell? ⟨w'.heap.size, 0 + i, none⟩ = some (.int .u8 (zs.getD i 0))) := hc1
      have HB : Hid (Below w'.heap.size w' w1) := hbel
      have HNN : Hid (∀ k, k ≤ n → nullB (zs.take k) = (hs && decide (k = 4))) := HN
      have HE1 : Hid (_ ∧ _) := HE
      clear hc1 hown hbel hcell HN he HE
      go_wp2_with fail
      go_loop [5, 6, 7] (fun u v i => ∃ k : Nat, k ≤ n + 1 ∧ u = .int .i64 (cnt hs k) ∧ v = .int .i64 (att hs k) ∧ i = .int .i64 k) (fun _ _ i => n + 1 - (intOf i).toNat)
      case atStart => exact ⟨0, Nat.zero_le _, by simp [cnt], by simp [att], rfl⟩
      case round =>
        obtain ⟨k, hk, e5, e6, rfl⟩ := hrel
        by_cases hlt : k ≤ n
        · subst e5 e6
          have hbd := cnt_bd hs k
          have hn1 : nullB (zs.take k) = (hs && decide (k = 4)) := HNN.out k hlt
          have hit := cnt_hit k hs
          have miss := cnt_miss k hs
          cases hv : (hs && decide (k = 4))
          · have ms := miss hv
            rw [hv] at hn1
            clear hit miss hv
            have MS : Hid (_ ∧ _) := ms
            clear ms
            go_wp2_with (go_at_call 7; refine (isNull_some w'.heap.size 0 k n (zs.take k) _ (by simp; omega) (fun z hz' => hw z (List.mem_of_mem_take hz')) (fun i hi => by rw [HC.out i (by omega)]; simp [List.getD, hi])).mono ?_; rintro e w2 ⟨rfl, rfl⟩)
            go_round
            case rel => exact ⟨k + 1, by omega, by rw [MS.out.1], by rw [MS.out.2], by go_num⟩
            case measure => simp [intOf]; omega
          · have ms := hit hv
            rw [hv] at hn1
            clear hit miss hv
            have MS : Hid (_ ∧ _) := ms
            clear ms
            go_wp2_with (go_at_call 7; refine (isNull_some w'.heap.size 0 k n (zs.take k) _ (by simp; omega) (fun z hz' => hw z (List.mem_of_mem_take hz')) (fun i hi => by rw [HC.out i (by omega)]; simp [List.getD, hi])).mono ?_; rintro e w2 ⟨rfl, rfl⟩)
            go_round
            case rel => exact ⟨k + 1, by omega, by rw [← MS.out.1], by rw [← MS.out.2], by go_num⟩
            case measure => simp [intOf]; omega
        · have : k = n + 1 := by omega
          subst this
          rw [HE1.out.1] at e5
          rw [HE1.out.2] at e6
          subst e5 e6
          go_wp2
          go_ret
          exact ⟨rfl, HB.out⟩
  · by_cases h2 : n ≤ 1048576
    · have hd : decide (n ≤ 1048576) = true := by simp; omega
      go_enter Try.func4, Try.ntmps4
      go_wp2_with (go_at_call 8; refine (bytes8 _ _ _ _ hmax).mono ?_; rintro e w' ⟨rfl, rfl⟩)
      go_ret
      exact ⟨rfl, Below.refl _ _⟩
    · have hd : decide (n ≤ 1048576) = false := by simp; omega
      go_enter Try.func4, Try.ntmps4
      go_wp2_with (go_at_call 8; refine (bytes8 _ _ _ _ hmax).mono ?_; rintro e w' ⟨rfl, rfl⟩)
      go_ret
      exact ⟨rfl, Below.refl _ _⟩

theorem walk_nil (w : World) : Calls Try.prog 4 #[.slice none 0 0] w fun e w' => e = .returned (.bool true) ∧ Below w.heap.size w w' := by
  go_enter Try.func4, Try.ntmps4
  go_wp2_with (first | (go_at_call 8; refine (bytes8 _ _ _ _ (by omega)).mono ?_; rintro e w' ⟨rfl, rfl⟩) | (go_at_call 9; refine (clone_nil _).mono ?_; rintro e w' ⟨rfl, rfl⟩))
  refine wp_loop_rounds 2 ?_
  rw [rounds_succ]
  go_wp2_with (first | (go_at_call 7; refine (isNull_none _).mono ?_; rintro e w' ⟨rfl, rfl⟩))
  rw [rounds_succ]
  go_wp2
  go_ret
  exact ⟨rfl, Below.refl _ _⟩

theorem walk_empty (x : Addr) (c : Nat) (w : World) : Calls Try.prog 4 #[.slice (some x) 0 c] w fun e w' => e = .returned (.bool true) ∧ Below w.heap.size w w' := by
  go_enter Try.func4, Try.ntmps4
  go_wp2_with (first | (go_at_call 8; refine (bytes8 _ _ _ _ (by omega)).mono ?_; rintro e w' ⟨rfl, rfl⟩))
  refine (clone_empty _ _ _).mono ?_
  rintro e w1 ⟨rfl, hbel⟩
  have HB : Hid (Below _ _ _) := hbel
  clear hbel
  go_wp2_with fail
  refine wp_loop_rounds 2 ?_
  rw [rounds_succ]
  go_wp2_with (first | (go_at_call 7; refine (isNull_some _ 0 0 0 [] _ rfl (by simp) (fun i hi => by omega)).mono ?_; rintro e w' ⟨rfl, rfl⟩))
  rw [rounds_succ]
  go_wp2
  go_ret
  exact ⟨rfl, HB.out⟩

theorem walk (a0 : Option Addr) (len0 cap0 : Nat) (z0 : List Int) (w : World) (w0 : IsRow .u8 w a0 len0 cap0 z0) :
    Calls Try.prog 4 #[.slice a0 len0 cap0] w fun e w' => e = .returned (.bool true) ∧ Below w.heap.size w w' := by
  rcases w0 with ⟨rfl, rfl, rfl, rfl⟩ | ⟨x, rfl, hl, hm, hz, hcell, hwz⟩
  · exact walk_nil w
  · unfold maxLen at hm
    have hwf : ∀ z ∈ z0.take len0, 0 ≤ z ∧ z ≤ 255 := fun z hz' => bounds_u8 (hwz z (List.mem_of_mem_take hz'))
    by_cases h0 : len0 = 0
    · subst h0
      exact walk_empty x cap0 w
    · obtain ⟨b, off, rfl, hb, hc⟩ := row_open (n := len0) (by omega) (by omega) hcell
      exact walk_some b off len0 cap0 (z0.take len0) w (by simp; omega) hb hwf (by omega) hc

/-! ### THE ROW's STEP: WRITTEN OUT: LEAVE IT -/
set_option maxRecDepth 100000 in
theorem lifted (os : Os) (started : os.Started) (H : Type) (enc : TypeId × Value → H) :
    ReturnsInHanded {} Try.checked os 4 .any (Rows.fnIsNullAcceptsOnlyTheFourBytePrefixNullSpec.pre6 enc Try.prog Try.f4 Rows.fnIsNullAcceptsOnlyTheFourBytePrefixNullRow.domain false) (Rows.fnIsNullAcceptsOnlyTheFourBytePrefixNullSpec.post enc Try.prog Try.f4 false true false false) := by
  refine returnsInHanded_of_change (C := Try.checked) own started (by kernel_rfl) Try.func4
    (ChangeSpec.witness6 (enc := enc) (C := Try.checked) false ⟨#[], #[.slice none 0 0], []⟩ 8 (by kernel_rfl) (by kernel_rfl) (by kernel_rfl) (by kernel_rfl)) ?_
  intro W base args ds gs before hval0 hW hcnd _
  have hval : ∀ (j : Nat) t v, Try.f4.params[j]? = some t → args[j]? = some v → Value.okWide Try.prog W .any base t v := hval0
  have hW' := hW
  obtain ⟨p, q, hA0, hV, rfl, hfz, hnd⟩ := hW
  have hA : DataW.TrodAll enc Try.prog W 0 (fun _ => true) true Try.f4.params.toList args.toList ds p := hA0
  rw [Try.params4] at hA hval
  obtain ⟨v0, vs0, d0, ds0, p0, q0, hargs, rfl, rfl, h0, r0⟩ := trodAll_cons hA
  obtain ⟨rfl, rfl, rfl⟩ := trodAll_nil r0
  obtain rfl : args = #[v0] := by cases args; simp_all
  obtain ⟨rfl, rfl⟩ := trodVars_none hV
  obtain ⟨a0, len0, cap0, rfl⟩ := okWide_slice Try.underlying22 (hval 0 22 v0 rfl rfl)
  have k0 := h0
  have lt0 : ∀ x ∈ p0, x.block < W.heap.size := by obtain ⟨m, hm⟩ := k0; exact DataW.trod_lt m _ _ _ hm
  obtain ⟨z0, w0⟩ : ∃ zs, IsRow .u8 W a0 len0 cap0 zs := by
    obtain ⟨fuel, hf⟩ := h0
    rcases open_ints Try.underlying22 Try.underlying5 (by kernel_rfl) hf with ⟨hcs, _⟩ | ⟨x, l, c, zs, hcs, _, hl, hm, hz, _, hcell, hwz⟩
    · simp [Value.cells] at hcs
      obtain ⟨rfl, rfl, rfl⟩ := hcs
      exact ⟨[], .inl ⟨rfl, rfl, rfl, rfl⟩⟩
    · simp [Value.cells] at hcs
      obtain ⟨rfl, rfl, rfl⟩ := hcs
      exact ⟨zs, .inr ⟨_, rfl, hl, hm, by simpa using hz, hcell, hwz⟩⟩
  clear hA0 hval0
  refine (walk a0 len0 cap0 z0 W w0).mono fun e W' ⟨he, bel⟩ => ?_
  subst he
  exact ⟨_, rfl, _, _, _, [], _, [], hW', trodAll_mk1 (shut_bool Try.underlying4 _), (trodAll_cons_mk (Below.trod laidOut (by kernel_rfl) (of_decide_eq_true (by kernel_rfl)) k0 bel lt0) trodAll_mk0), rfl, bel.frame _, fun h => by cases h⟩

theorem over : Rows.fnIsNullAcceptsOnlyTheFourBytePrefixNullRow.holds Try.pinned (OpenSpec.ofChange Rows.fnIsNullAcceptsOnlyTheFourBytePrefixNullSpec) :=
  OpenClaim.holds_of_wide 4 Try.f4 rfl rfl rfl rfl rfl rfl rfl ⟨rfl, rfl, rfl, rfl, rfl⟩ rfl rfl rfl rfl rfl (by kernel_rfl) Try.func4 (by kernel_rfl)
    (of_decide_eq_true (by kernel_rfl)) (by unfold Func.isWrapper; first | (rw [if_pos (by decide +kernel)]; kernel_rfl) | (rw [if_neg (by decide +kernel)]; exact ⟨rfl, rfl⟩))
    (fun os started H enc _ => lifted os started H enc)

end Go.Proofs.Qxb6618967a.fnIsNullAcceptsOnlyTheFourBytePrefixNull

namespace Go.Proofs.Qxb6618967a
/-- THE STATEMENT -/
theorem prefix_proved : Rows.FnIsNullAcceptsOnlyTheFourBytePrefixNullSaid := fnIsNullAcceptsOnlyTheFourBytePrefixNull.over
end Go.Proofs.Qxb6618967a
