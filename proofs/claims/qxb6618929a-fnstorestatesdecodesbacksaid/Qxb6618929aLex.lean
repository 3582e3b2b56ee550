/-
  A REGION THAT DRAWS AND ONLY READS, OF MANY OPERATIONS: a cheaper look at its order.
-/
import Derived.Deep.QuietTactic
import Derived.BigQuiet
namespace Go.Proofs.Qxb6618929a
open Go

/-- The operations from number k on may be taken in the text's order. -/
def lexChk (ops : Array Oper) : Nat → List Oper → Bool
  | _, [] => true
  | k, o :: rest => (o.after.toList.all fun e => !Region.binds .any e || Nat.blt e.on k) && (rest.all fun y => y.after.toList.any (fun e => Region.binds .any e && Nat.beq e.on k) || o.apart ops y) && lexChk ops (k + 1) rest

theorem lexChk_from (ops : Array Oper) : ∀ (rest : List Oper) (k : Nat) (listed : Array Bool), k + rest.length = ops.size → (∀ j, rest[j]? = ops[k + j]?) → listed.size = ops.size → (∀ j, j < ops.size → listed[j]? = some (decide (j < k))) →
    lexChk ops k rest = true → Region.lexFrom .any ops rest.length k listed = true
  | [], k, listed, hk, hr, hs, hl, _ => by
    simp only [List.length_nil, Region.lexFrom, List.isEmpty_iff, Region.ready, List.filter_eq_nil_iff, List.mem_range]
    intro i hi
    have := hl i hi
    simp only [List.length_nil, Nat.add_zero] at hk
    simp [Array.getD_eq_getD_getElem?, this, show i < k by omega]
  | o :: rest, k, listed, hk, hr, hs, hl, hc => by
    simp only [List.length_cons] at hk
    simp only [lexChk, Bool.and_eq_true, List.all_eq_true] at hc
    obtain ⟨⟨h1, h2⟩, h3⟩ := hc
    have h0 : ops[k]? = some o := by simpa using (hr 0).symm
    have hkl := hl k (by omega)
    simp only [List.length_cons, Region.lexFrom, Bool.and_eq_true]
    refine ⟨⟨?_, ?_⟩, ?_⟩
    · simp only [List.contains_iff_mem, Region.ready, List.mem_filter, List.mem_range]
      refine ⟨by omega, ?_⟩
      simp only [Array.getD_eq_getD_getElem?, hkl, h0, Option.map_some, Option.getD_some, Bool.and_eq_true, Bool.not_eq_true', decide_eq_false_iff_not, Nat.lt_irrefl, not_false_eq_true, true_and]
      rw [Array.all_eq_true_iff_forall_mem]
      intro e he
      have := h1 e (by simpa using he)
      simp only [Bool.or_eq_true, Bool.not_eq_true', Nat.blt_eq] at this ⊢
      rcases this with h | h
      · exact .inl h
      · right
        rw [hl e.on (by omega)]
        simp [h]
    · unfold Region.free
      simp only [h0, List.all_eq_true, List.mem_range]
      intro j hj
      by_cases hjk : j < k
      · have := hl j hj
        simp [Array.getD_eq_getD_getElem?, this, hjk]
      · by_cases hje : j = k
        · simp [hje]
        · obtain ⟨i, rfl⟩ : ∃ i, j = k + (i + 1) := ⟨j - k - 1, by omega⟩
          have hri := hr (i + 1)
          simp only [List.getElem?_cons_succ] at hri
          rw [← hri]
          cases hy : rest[i]? with
          | none => simp
          | some y =>
            have := h2 y (List.mem_of_getElem? hy)
            simp only [Bool.or_eq_true] at this ⊢
            right
            rcases this with h | h
            · left
              rw [← Array.any_toList]
              simpa [Nat.beq_eq] using h
            · exact .inr h
    · refine lexChk_from ops rest (k + 1) _ (by omega) (fun j => ?_) (by simpa using hs) (fun j hj => ?_) h3
      · have := hr (j + 1)
        simpa [Nat.add_assoc, Nat.add_comm 1 j] using this
      · by_cases hje : j = k
        · subst hje
          simp [hs, hj]
        · rw [Array.getElem?_setIfInBounds_ne (fun e => hje e.symm), hl j hj]
          congr 1
          simp only [decide_eq_decide]
          omega

theorem lexB_of {l : List Oper} (hn : Region.noSelect l.toArray = true) (h : lexChk l.toArray 0 l = true) : Region.lexB .any l.toArray = true := by
  unfold Region.lexB
  rw [hn, Bool.true_and]
  have := lexChk_from l.toArray l 0 (Array.replicate l.toArray.size false) (by simp) (by simp) (by simp) (fun j hj => by rw [Array.getElem?_replicate, if_pos (by simpa using hj)]; simp) h
  simpa using this

theorem wp_region_quiet_big {P : Program} {id : Nat} {Q : Exit → Act → World → Prop} {a : Act} {w : World} {l : List Oper} (hm : P.follows .mixedOrders = true) (hn : Region.noSelect l.toArray = true) (h : lexChk l.toArray 0 l = true)
    (hq : wpQuiet P l.toArray (fun w' => ∃ n, w' = w.drewN n) (fun a' => ∀ w', (∃ n, w' = w.drewN n) → Q .normal a' w') l a) : (Code.region id l.toArray true).wp P Q a w :=
  wp_region_quiet_lit hm (lexB_of hn h) hq
end Go.Proofs.Qxb6618929a
