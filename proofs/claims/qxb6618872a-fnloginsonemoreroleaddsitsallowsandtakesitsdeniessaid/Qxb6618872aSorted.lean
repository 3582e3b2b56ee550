/-
  slices.Sorted(maps.Keys(m)): the set's strings, each once, rising.
-/
import Derived.Test.Qxb6618872aClose
namespace Go.Proofs.Qxb6618872a
open Go Go.RowKit Go.Maps Go.Shelf Go.WideShapes Go.WideElems Go.WideMaps

/-- Rising: each is ahead of each later one. -/
def Rising (L : List (List UInt8)) : Prop := ∀ i j (hi : i < L.length) (hj : j < L.length), i < j → L[i] ≤ L[j] ∧ L[i] ≠ L[j]

theorem rising_sort {ss : List (List UInt8)} (hnd : ss.Nodup) : Rising (ss.mergeSort (fun x y => decide (x ≤ y))) := by
  have h1 : (ss.mergeSort (fun x y => decide (x ≤ y))).Pairwise (fun a b => decide (a ≤ b) = true) :=
    List.pairwise_mergeSort (fun a b c h1 h2 => by simp only [decide_eq_true_eq] at *; exact List.le_trans h1 h2) (fun a b => by simp only [Bool.or_eq_true, decide_eq_true_eq]; exact List.le_total a b) ss
  have h2 : (ss.mergeSort (fun x y => decide (x ≤ y))).Nodup := (List.mergeSort_perm ss _).nodup_iff.2 hnd
  intro i j hi hj hij
  exact ⟨by simpa using List.pairwise_iff_getElem.1 h1 i j hi hj hij, List.pairwise_iff_getElem.1 h2 i j hi hj hij⟩

theorem nodup_of_keys : ∀ (es : List (Lit × DataW Unit)), es.Pairwise (fun p q => p.1 ≠ q.1) → (∀ p ∈ es, ∃ x, p.1 = .string x) → (es.map fun p => strOf p.1).Nodup
  | [], _, _ => List.nodup_nil
  | e :: es, hp, hk => by
    rw [List.pairwise_cons] at hp
    rw [List.map_cons, List.nodup_cons]
    refine ⟨fun hm => ?_, nodup_of_keys es hp.2 (fun p h => hk p (List.mem_cons_of_mem _ h))⟩
    obtain ⟨q, hq, he⟩ := List.mem_map.1 hm
    obtain ⟨a, ha⟩ := hk e List.mem_cons_self
    obtain ⟨b, hb⟩ := hk q (List.mem_cons_of_mem _ hq)
    apply hp.1 q hq
    rw [ha, hb] at he ⊢
    exact congrArg _ he.symm

theorem strKeys_set {w : World} {b n : Nat} {D : DataW Unit} {S : List (List UInt8)} (ho : w.ownsMap Try.prog 9 RB b n D) (hs : SetD D S) :
    (strKeys D).Nodup ∧ (∀ l, l ∈ strKeys D ↔ l ∈ S) ∧ (∀ l ∈ strKeys D, l.length ≤ maxLen) ∧ (strKeys D).length = Maps.size D := by
  have hle := strKeys_le ho Try.underlying9
  obtain ⟨es, rfl, hap, hk⟩ := ho.entries K9
  obtain ⟨es', he, hks⟩ := ho.keysOf
  cases he
  have hstr : ∀ p ∈ es, ∃ x, p.1 = .string x := fun p hp => by
    obtain ⟨v, hv⟩ := hks p hp
    obtain ⟨y, _, hy, _⟩ := Maps.keyOf_str Try.underlying9 hv
    exact ⟨y, hy⟩
  have hnd : (es.map fun p => strOf p.1).Nodup := nodup_of_keys es hap hstr
  refine ⟨hnd, fun l => ?_, hle, by simp [strKeys, Maps.size]⟩
  have hp := perm_strKeys (es := es) hap hstr hnd (fun x => by
    rw [has_eq, List.any_eq_true, List.mem_map]
    constructor
    · rintro ⟨p, hp', rfl⟩
      obtain ⟨a, ha⟩ := hstr p hp'
      exact ⟨p, hp', by rw [ha]; simp [Lit.sameKey, strOf]⟩
    · rintro ⟨p, hp', hs⟩
      obtain ⟨a, ha⟩ := hstr p hp'
      rw [ha] at hs
      exact ⟨p, hp', by rw [ha]; simpa [Lit.sameKey, strOf] using hs⟩)
  have h1 := hs.1 l
  have h2 : l ∈ strKeys (.map es) ↔ has (.map es) (.string l) = true := by
    rw [has_eq, List.any_eq_true]
    show l ∈ (es.map fun p => strOf p.1) ↔ _
    rw [List.mem_map]
    constructor
    · rintro ⟨p, hp', rfl⟩
      obtain ⟨a, ha⟩ := hstr p hp'
      exact ⟨p, hp', by rw [ha]; simp [Lit.sameKey, strOf]⟩
    · rintro ⟨p, hp', hs⟩
      obtain ⟨a, ha⟩ := hstr p hp'
      rw [ha] at hs
      exact ⟨p, hp', by rw [ha]; simpa [Lit.sameKey, strOf] using hs⟩
  rw [h2, h1]
  simp

theorem sorted_set {w : World} {b n : Nat} {S : List (List UInt8)} (h : OwnSet w b n S) (hn : n ≤ 8796093022208) :
    Calls Try.prog 22 #[.func (.func 27) #[] #[.pointer (some ⟨w.heap.size, 0, none⟩)]] (w.alloc (.cells #[.map (some b)] 32)) fun e w' => ∃ (v : Value) (L : List (List UInt8)), e = .returned v ∧ Rising L ∧ (∀ l, l ∈ L ↔ l ∈ S) ∧ (∀ l ∈ L, l.length ≤ maxLen) ∧ L.length ≤ n ∧
      w'.ownsRow (w.heap.size + 1) 9 1 v L.length (L.map encStr) ∧ w.grownBy w' none := by
  obtain ⟨D, ho, hs⟩ := h
  have hsz := ho.size_le
  obtain ⟨k1, k2, k3, k4⟩ := strKeys_set ho hs
  refine (callsIn_wide.1 (Try.slices_Sorted_keys_22_23 b n D RB w ho (by unfold maxLen; omega) (by omega))).mono ?_
  rintro e w' ⟨v, ss, rfl, hperm, hown, _, hbel⟩
  have hss : ss.Nodup := hperm.nodup_iff.2 k1
  have hms := List.mergeSort_perm ss (fun x y => decide (x ≤ y))
  refine ⟨v, ss.mergeSort (fun x y => decide (x ≤ y)), rfl, rising_sort hss, fun l => by rw [hms.mem_iff, hperm.mem_iff, k2], fun l hl => k3 l (hperm.mem_iff.1 (hms.mem_iff.1 hl)), ?_, ?_, ?_⟩
  · rw [hms.length_eq, hperm.length_eq, k4]; exact hsz
  · rw [hms.length_eq]
    simpa using hown
  · exact below_grown (((Below.refl _ _).alloc (Nat.le_refl _) _).trans (hbel.mono (by simp)))
end Go.Proofs.Qxb6618872a
