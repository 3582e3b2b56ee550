/-
  zzCopyInt, zzU8Cards, zzCloneBytes.
-/
import Derived.Test.Qxb6618929aSame
import Derived.ProofKit
import Derived.Laws.CopyOwn
import Derived.Deep.CutBlock
namespace Go.Proofs.Qxb6618929a
open Go Go.RowKit

attribute [local go_sem] qz36 qs36

/-- The blocks that are new. -/
def Fresh (w w' : World) (k : Nat) : Prop := w.heap.size ≤ k ∧ k < w'.heap.size
theorem Fresh.below {w w1 w2 w3 : World} (h1 : w.heap.size ≤ w1.heap.size) (h2 : w2.heap.size ≤ w3.heap.size) : ∀ k, Fresh w1 w2 k → Fresh w w3 k := fun _ h => ⟨Nat.le_trans h1 h.1, Nat.lt_of_lt_of_le h.2 h2⟩
theorem Below.sameOf {B : Nat} {w w' : World} (h : Below B w w') {R : Nat → Prop} (hr : ∀ k, R k → k < B) : Same R w w' := fun k hk => h.block k (hr k hk)

theorem copyInt (v : Value) (o : Option Int) (R : Nat → Prop) (w : World) (h : OptAt w R v o) : Calls Try.prog 40 #[v] w fun e w' => ∃ v', e = .returned v' ∧ OptAt w' (Fresh w w') v' o ∧ Below w.heap.size w w' := by
  cases o with
  | none =>
    have h : v = .pointer none := h
    subst h
    go_enter Try.func40, Try.ntmps40
    go_wp2
    go_ret
    exact ⟨_, rfl, rfl, Below.refl _ _⟩
  | some x =>
    obtain ⟨a, rfl, _, hx⟩ := h
    go_enter Try.func40, Try.ntmps40
    go_wp2
    go_ret
    exact ⟨_, rfl, ⟨⟨w.heap.size, 0, none⟩, rfl, ⟨Nat.le_refl _, by simp⟩, by simp⟩, (Below.refl _ _).alloc (Nat.le_refl _) _⟩

theorem Try.info126 : (Try.prog.info? 126).map (fun i => (i.zero, i.size, i.bytes)) = some (some (.int .u8 0), 1, 1) := by kernel_rfl

/-- What a new row holds behind k rounds. -/
def part (xs : List Value) (z : Value) (n k : Nat) : List Value := xs.take k ++ List.replicate (n - k) z
theorem part_len (xs : List Value) (z : Value) (n k : Nat) (hz : xs.length = n) (hk : k ≤ n) : (part xs z n k).length = n := by simp [part]; omega
theorem part_step (xs : List Value) (z u : Value) (n k : Nat) (hz : xs.length = n) (hk : k < n) (hu : xs[k]? = some u) : (part xs z n k).set k u = part xs z n (k + 1) := by
  have e : n - k = (n - (k + 1)) + 1 := by omega
  have hl : (xs.take k).length = k := by simp; omega
  unfold part
  rw [List.set_append_right _ _ (by omega), hl, Nat.sub_self, e, List.replicate_succ, List.set_cons_zero, List.take_add_one, hu, List.append_assoc]
  rfl
theorem part_end (xs : List Value) (z : Value) (n : Nat) (hz : xs.length = n) : part xs z n n = xs := by
  simp [part, List.take_of_length_le (Nat.le_of_eq hz)]

theorem byteCells_get (cs : List UInt8) (k : Nat) (h : k < cs.length) : (Lib.byteCells cs)[k]? = some (.int .u8 (cs.getD k 0).toNat) := by
  simp [Lib.byteCells, List.getD, h]

theorem own_some_lt {w : World} {base e size n g cap : Nat} {xs : List Value} (h : w.ownsRow base e size (.slice (some ⟨g, 0, none⟩) n cap) n xs) : g < w.heap.size := by
  rcases h.2 with ⟨h', _⟩ | ⟨g', cap', cur, h', _, hg, _⟩
  · cases h'
  · simp only [Value.slice.injEq, Option.some.injEq, Addr.mk.injEq, and_true, true_and] at h'
    obtain ⟨rfl, rfl⟩ := h'
    exact (Array.getElem?_eq_some_iff.1 hg).1

theorem cards_of_own {w : World} {base e n : Nat} {cs : List UInt8} {g cap : Nat} (h : w.ownsRow base e 1 (.slice (some ⟨g, 0, none⟩) n cap) n (Lib.byteCells cs)) (hn : cs.length = n) {R : Nat → Prop} (hR : R g) : CardsAt w R (.slice (some ⟨g, 0, none⟩) n cap) (some cs) := by
  subst hn
  refine ⟨⟨g, 0, none⟩, cap, rfl, .inr ⟨g, 0, rfl, hR, fun j hj => ?_⟩⟩
  rw [Nat.zero_add, h.cellAt j (by omega)]
  exact byteCells_get cs j hj

set_option maxRecDepth 100000 in
theorem u8cards (v : Value) (o : Option (List UInt8)) (R : Nat → Prop) (w : World) (h : CardsAt w R v o) (hR : ∀ k, R k → k < w.heap.size) (hl : CardsOk o) : Calls Try.prog 39 #[v] w fun e w' => ∃ v', e = .returned v' ∧ CardsAt w' (Fresh w w') v' o ∧ Below w.heap.size w w' := by
  obtain ⟨i0, hi, hz0, hz1, hz2⟩ := info_parts Try.info126
  unfold CardsOk at hl
  cases o with
  | none =>
    have h : v = .slice none 0 0 := h
    subst h
    go_enter Try.func39, Try.ntmps39
    go_wp2
    go_ret
    exact ⟨_, rfl, rfl, Below.refl _ _⟩
  | some cs =>
    simp only [Option.getD_some] at hl
    obtain ⟨a, cap, rfl, h2⟩ := h
    rcases h2 with h0 | ⟨b, off, rfl, hb, hc⟩
    · obtain rfl : cs = [] := List.eq_nil_of_length_eq_zero (by omega)
      simp only [List.length_nil]
      go_enter Try.func39, Try.ntmps39
      go_wp2_with (at_make; refine wpList_make_full _ rfl _ _ 77 rfl w.heap.size 126 i0 (.int .u8 0) 1 Try.underlying77 hi hz0 hz1 _ _ _ _ 0 rfl rfl rfl rfl (by rw [hz2]; omega) (by unfold maxLen; omega) (Nat.le_refl _) ?_; intro w1 hown hgrow)
      go_loop [4, 12] (fun _ i => i = .int .i64 0) (fun _ _ => 0)
      case atStart => rfl
      case round =>
        subst hrel
        go_wp2
        go_ret
        exact ⟨_, rfl, ⟨_, _, rfl, .inl (Nat.le_refl _)⟩, (Below.refl _ _).grown hgrow (Nat.le_refl _) (fun k h => by cases h)⟩
    · have hbl := hR b hb
      have HC := hd hc
      have hxl : (Lib.byteCells cs).length = cs.length := by simp [Lib.byteCells]
      clear hc hR
      go_enter Try.func39, Try.ntmps39
      go_wp2_with (at_make; refine wpList_make_full _ rfl _ _ 77 rfl w.heap.size 126 i0 (.int .u8 0) 1 Try.underlying77 hi hz0 hz1 _ _ _ _ cs.length rfl rfl rfl rfl (by rw [hz2]; omega) (by unfold maxLen; omega) (Nat.le_refl _) ?_; intro w1 hown hgrow)
      go_loopw [4, 12] (fun _ i wr => ∃ k : Nat, k ≤ cs.length ∧ i = .int .i64 k ∧ wr.ownsRow w.heap.size 126 1 (.slice (some ⟨w.heap.size, 0, none⟩) cs.length cs.length) cs.length (part (Lib.byteCells cs) (.int .u8 0) cs.length k) ∧ Below w.heap.size w wr) (fun _ i _ => cs.length - (intOf i).toNat)
      case atStart =>
        refine ⟨0, Nat.zero_le _, rfl, ?_, (Below.refl _ _).grown hgrow (Nat.le_refl _) (fun k h => by cases h)⟩
        have e : (madeCells (Value.int .u8 0).cells (cs.length * 1)).toList = part (Lib.byteCells cs) (.int .u8 0) cs.length 0 := by
          rw [show (Value.int .u8 0).cells = #[Value.int .u8 0] from rfl, toList_madeCells_one]; simp [part]
        rw [← e]; exact hown
      case round =>
        obtain ⟨k, hk, rfl, ho, hbel⟩ := hrel
        by_cases hlt : k < cs.length
        · have hc1 : wr.cell? ⟨b, off + k, none⟩ = some (.int .u8 (cs.getD k 0).toNat) := (hbel.cell hbl).trans (HC.out k hlt)
          have hpl := part_len (Lib.byteCells cs) (.int .u8 0) cs.length k hxl hk
          have hc2 : wr.cell? ⟨w.heap.size, k, none⟩ = some ((part (Lib.byteCells cs) (.int .u8 0) cs.length k)[k]'(by omega)) := by rw [ho.cellAt k (by omega)]; exact List.getElem?_eq_getElem _
          have hf2 := ho.frozenAt k
          have hst := ho.stored k (.int .u8 (cs.getD k 0).toNat)
          rw [part_step (Lib.byteCells cs) (.int .u8 0) _ cs.length k hxl hlt (byteCells_get cs k hlt)] at hst
          have HST := hd hst
          have HB := hd hbel
          clear hst hown hgrow ho hbel
          generalize cs.getD k 0 = x at hc1 HST
          go_wp2
          go_roundw
          case rel => exact ⟨k + 1, by omega, by go_num, HST.out.1, HB.out.setCell (Nat.le_refl _) _⟩
          case measure => simp [intOf]; omega
        · have hkn : k = cs.length := by omega
          subst hkn
          rw [part_end _ _ _ hxl] at ho
          have HO := hd ho
          clear ho
          go_wp2
          go_ret
          exact ⟨_, rfl, cards_of_own HO.out rfl ⟨Nat.le_refl _, own_some_lt HO.out⟩, hbel⟩

/-- zzCloneBytes of nil is nil. -/
theorem clone_nil (w : World) : Calls Try.prog 15 #[.slice none 0 0] w fun e w' => e = .returned (.slice none 0 0) ∧ w' = w := by
  go_enter Try.func15, Try.ntmps15
  go_wp2
  go_ret
  exact ⟨rfl, rfl⟩

/-- zzCloneBytes: a row of its own with the same bytes. -/
theorem cloneBytes (v : Value) (o : Option (List UInt8)) (R : Nat → Prop) (w : World) (h : CardsAt w R v o) (hl : CardsOk o) :
    Calls Try.prog 15 #[v] w fun e w' => ∃ v', e = .returned v' ∧ w'.ownsRow 0 5 1 v' (o.getD []).length (Lib.byteCells (o.getD [])) ∧ (∀ k, v'.ownBlock = some k → w.heap.size ≤ k) ∧ Below w.heap.size w w' := by
  obtain ⟨i0, hi, hz0, hz1, hz2⟩ := info_parts Try.info5
  unfold CardsOk at hl
  cases o with
  | none =>
    have h : v = .slice none 0 0 := h
    subst h
    exact (clone_nil w).mono fun e w' ⟨h1, h2⟩ => ⟨_, h1, by subst h2; exact World.ownsRow_nil _ 0 5 1, fun k hk => by simp [Value.ownBlock] at hk, by subst h2; exact Below.refl _ _⟩
  | some cs =>
    simp only [Option.getD_some] at hl ⊢
    obtain ⟨a, cap, rfl, h2⟩ := h
    have hsz : (Try.prog.info? 5).map (·.size) = some 1 := by rw [hi]; simp [hz1]
    have key : 0 < (Lib.byteCells cs).length → ∀ j v, (Lib.byteCells cs)[j]? = some v → w.cell? (a.add j) = some v := by
      intro h0 j v hv
      have hlen : (Lib.byteCells cs).length = cs.length := by simp [Lib.byteCells]
      rcases h2 with h2 | ⟨b, off, rfl, _, hc⟩
      · omega
      · have hj : j < cs.length := by
          have := (List.getElem?_eq_some_iff.1 hv).1
          omega
        rw [byteCells_get cs j hj] at hv
        rw [Addr.add_lit, hc j hj]
        exact hv
    clear h2
    have HK := hd key
    clear key
    have hbl : (Lib.byteCells cs).length = cs.length := by simp [Lib.byteCells]
    go_enter Try.func15, Try.ntmps15
    go_upto_region 4 with (at_make; refine wpList_make_full _ rfl _ _ 36 rfl w.heap.size 5 i0 (.int .u8 0) 1 Try.underlying36 hi hz0 hz1 _ _ _ _ cs.length rfl rfl rfl rfl (by rw [hz2]; omega) (by unfold maxLen; omega) (Nat.le_refl _) ?_; intro w1 hown hgrow)
    have hb1 : Below w.heap.size w w1 := (Below.refl _ _).grown hgrow (Nat.le_refl _) (fun k h => by cases h)
    obtain ⟨cur, hg, hcur⟩ : ∃ cur : List Value, w1.heap[w.heap.size]? = some (.cells cur.toArray 5 (0, 0)) ∧ cur.length = cs.length := by
      rcases hown.2 with ⟨h, _⟩ | ⟨g, cap, cur, h, _, hg, _, _, hsz1, _⟩
      · simp at h
      · simp only [Value.slice.injEq, Option.some.injEq, Addr.mk.injEq, and_true, true_and] at h
        obtain ⟨rfl, rfl⟩ := h
        exact ⟨cur.toList, by simpa using hg, by simpa using hsz1⟩
    have hpos : 0 < (Lib.byteCells cs).length → (some (⟨w.heap.size, 0, none⟩ : Addr)) = some ⟨w.heap.size, 0, none⟩ ∧ ∃ ad, some a = some ad ∧ ∀ j v, (Lib.byteCells cs)[j]? = some v → w1.cell? (ad.add j) = some v := fun h0 =>
      ⟨rfl, a, rfl, fun j v hv => cell_later hb1 (HK.out h0 j v hv)⟩
    have hone : ∀ v ∈ Lib.byteCells cs, v.oneCell' = true := by
      intro v hv
      obtain ⟨_, _, rfl⟩ := List.mem_map.1 hv
      rfl
    have HG := hd hg
    have HB := hd hb1
    have HP := hd hpos
    have HO := hd hone
    have HLM : Hid ((Lib.byteCells cs).length = Nat.min cs.length cs.length) := by show _ = _; simp [hbl]
    have HLF : Hid (0 + (Lib.byteCells cs).length ≤ cur.length) := by show _ ≤ _; omega
    have HSP : Hid (splice cur 0 (Lib.byteCells cs) = Lib.byteCells cs) := by
      show _ = _
      have : cur.drop (0 + (Lib.byteCells cs).length) = [] := List.drop_eq_nil_of_le (by omega)
      unfold splice
      rw [this, List.take_zero, List.append_nil, List.nil_append]
    clear hg hb1 hown hgrow hpos hone
    go_wp2_with (refine wpList_copy_splice rfl (.tmp 9) (.tmp 10) 36 36 rfl 5 Try.underlying36 hsz _ _ _ _ _ _ rfl rfl w.heap.size 0 cur 5 HG.out (Lib.byteCells cs) HLM.out HP.out HLF.out HO.out w.heap.size w HB.out (Nat.le_refl _) ?_)
    intro w2 HG2 hb2
    go_wp2
    go_ret
    have hg2 := HG2.out
    rw [HSP.out] at hg2
    refine ⟨_, rfl, ⟨by simp [hbl], .inr ⟨w.heap.size, cs.length, _, rfl, Nat.zero_le _, hg2, Nat.le_refl _, by unfold maxLen; omega, by simp [hbl], by rw [Nat.mul_one]; exact List.take_of_length_le (Nat.le_of_eq hbl)⟩⟩, fun k hk => ?_, hb2⟩
    have : w.heap.size = k := by simpa [Value.ownBlock] using hk
    omega
end Go.Proofs.Qxb6618929a
