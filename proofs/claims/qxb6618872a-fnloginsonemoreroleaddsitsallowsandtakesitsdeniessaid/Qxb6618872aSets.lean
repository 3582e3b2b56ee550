/-
  MAPS OF string TO bool AS SETS OF STRINGS: what a map holds, look-ups, stores, maps.Copy, maps.DeleteFunc, slices.Sorted(maps.Keys(m)).
-/
import Derived.Test.Qxb6618872aRows
import Derived.Test.Qxb6618872aShelf
import Derived.WalkKit
import Derived.WalkSpells
import Derived.WalkSmall
import Derived.Maps.OwnSet
import Derived.Maps.OwnOps
import Derived.Sort.KeysCollected
namespace Go.Proofs.Qxb6618872a
open Go Go.RowKit Go.Maps Go.Shelf Go.WideShapes Go.WideElems Go.WideMaps

theorem hd {p : Prop} (h : p) : Hid p := h

theorem K9 : Keyed Try.prog 9 := string_keyed Try.underlying9
/-- How an element reads: a bool. -/
def RB : Value → Option (DataW Unit × List MemPlace)
  | .bool x => some (.lit (.bool x), [])
  | _ => none
theorem rb_true : RB (.bool true) = some (.lit (.bool true), []) := rfl
theorem rb_false : RB (.bool false) = some (.lit (.bool false), []) := rfl
theorem rb_inv {v : Value} {z : DataW Unit × List MemPlace} (h : RB v = some z) : ∃ x, v = .bool x ∧ z = (.lit (.bool x), []) := by
  unfold RB at h
  cases v <;> simp at h
  exact ⟨_, rfl, h.symm⟩

/-- The datum D reads as the set S: just its strings are keys, each at 'true'. -/
def SetD (D : DataW Unit) (S : List (List UInt8)) : Prop :=
  (∀ l, Maps.has D (.string l) = decide (l ∈ S)) ∧ ∀ l, l ∈ S → ∀ z, D.atKey (.string l) z = .lit (.bool true)

theorem SetD.at {D : DataW Unit} {S : List (List UInt8)} (h : SetD D S) (l : List UInt8) : D.atKey (.string l) (.lit (.bool false)) = .lit (.bool (decide (l ∈ S))) := by
  by_cases hl : l ∈ S
  · rw [h.2 l hl]; simp [hl]
  · rw [atKey_of_not_has (by rw [h.1 l]; simp [hl])]; simp [hl]

theorem setD_empty : SetD (.map []) [] := ⟨fun l => by simp [Maps.has], fun l hl => by simp at hl⟩

theorem SetD.congr {D : DataW Unit} {S T : List (List UInt8)} (h : SetD D S) (hst : ∀ l, l ∈ S ↔ l ∈ T) : SetD D T :=
  ⟨fun l => by rw [h.1 l]; simp [hst l], fun l hl => h.2 l ((hst l).2 hl)⟩

theorem SetD.put {D : DataW Unit} {S : List (List UInt8)} (h : SetD D S) (hm : IsMap D) (l : List UInt8) : SetD (D.put (.string l) (.lit (.bool true))) (l :: S) := by
  have hk : WideAt.IsKeyLit (.string l) := trivial
  refine ⟨fun x => ?_, fun x hx z => ?_⟩
  · by_cases e : x = l
    · subst e; rw [has_put_same hm hk]; simp
    · rw [has_put_other (by simpa using e), h.1 x]; simp [e]
  · by_cases e : x = l
    · subst e; rw [atKey_put_same hm hk]
    · rw [atKey_put_other (by simpa using e)]
      exact h.2 x (by simpa [e] using hx) z

theorem SetD.merge {Dd : DataW Unit} {es : List (Lit × DataW Unit)} {S1 S2 : List (List UInt8)} (h1 : SetD Dd S1) (hm : IsMap Dd) (h2 : SetD (.map es) S2) (hap : es.Pairwise (fun p q => p.1 ≠ q.1)) (hk : ∀ p ∈ es, WideAt.IsKeyLit p.1) :
    SetD (Lib.mergeD Dd (.map es)) (S2 ++ S1) := by
  have hh : ∀ l, es.any (fun p => p.1.sameKey (.string l)) = decide (l ∈ S2) := fun l => h2.1 l
  refine ⟨fun l => ?_, fun l hl z => ?_⟩
  · show Maps.has (es.foldl (fun D p => D.put p.1 p.2) Dd) (.string l) = _
    rw [has_foldPut _ es Dd hm hk, h1.1 l, hh l]
    by_cases a : l ∈ S1 <;> by_cases b : l ∈ S2 <;> simp [a, b]
  · show (es.foldl (fun D p => D.put p.1 p.2) Dd).atKey (.string l) z = _
    rw [atKey_foldPut _ z es Dd hm hk hap]
    cases hf : es.find? (fun p => p.1.sameKey (.string l)) with
    | some p =>
      have : (DataW.map es).atKey (.string l) z = p.2 := by
        simp [DataW.atKey, hf]
      have hin : l ∈ S2 := by
        have := hh l
        rw [List.any_eq_true.2 ⟨p, List.mem_of_find?_eq_some hf, List.find?_some (p := fun (q : Lit × DataW Unit) => q.1.sameKey (.string l)) hf⟩] at this
        simpa using this.symm
      show p.2 = _
      rw [← this]
      exact h2.2 l hin z
    | none =>
      have hn : l ∉ S2 := by
        intro hin
        have := hh l
        rw [List.any_eq_false.2 (fun p hp => by simpa using List.find?_eq_none.1 hf p hp)] at this
        simp [hin] at this
      exact h1.2 l (by simpa [hn] using hl) z

/-- What a key reads as, as a string. -/
def litStr : Lit → List UInt8
  | .string l => l
  | _ => []

theorem find_filter {α : Type} (f g : α → Bool) : ∀ (l : List α), (∀ p ∈ l, f p = true → g p = true) → (l.filter g).find? f = l.find? f
  | [], _ => rfl
  | a :: r, h => by
    by_cases hf : f a = true
    · rw [List.filter_cons_of_pos (h a (by simp) hf), List.find?_cons_of_pos hf, List.find?_cons_of_pos hf]
    · by_cases hg : g a = true
      · rw [List.filter_cons_of_pos hg, List.find?_cons_of_neg hf, List.find?_cons_of_neg hf]
        exact find_filter f g r (fun p hp => h p (by simp [hp]))
      · rw [List.filter_cons_of_neg hg, List.find?_cons_of_neg hf]
        exact find_filter f g r (fun p hp => h p (by simp [hp]))

theorem sameKey_string {k : Lit} {l : List UInt8} (h : k.sameKey (.string l) = true) : k = .string l := by
  by_cases e : k = .string l
  · exact e
  · rw [sameKey_ne e] at h; cases h

theorem SetD.strike {es : List (Lit × DataW Unit)} {S : List (List UInt8)} (h : SetD (.map es) S) (d : List UInt8 → Bool) :
    SetD (Lib.deleteFuncD (fun k _ => d (litStr k)) (.map es)) (S.filter fun l => !d l) := by
  have hh : ∀ l, es.any (fun p => p.1.sameKey (.string l)) = decide (l ∈ S) := fun l => h.1 l
  refine ⟨fun l => ?_, fun l hl z => ?_⟩
  · show (es.filter fun p => !d (litStr p.1)).any (fun p => p.1.sameKey (.string l)) = _
    rw [List.any_filter]
    by_cases hd : d l = true
    · have e1 : decide (l ∈ S.filter fun l => !d l) = false := by simp [hd]
      rw [e1]
      refine List.any_eq_false.2 (fun p hp => ?_)
      intro hc
      simp only [Bool.and_eq_true] at hc
      rw [sameKey_string hc.2] at hc
      simp [litStr, hd] at hc
    · have e2 : decide (l ∈ S.filter fun l => !d l) = decide (l ∈ S) := by simp [hd]
      rw [e2, ← hh l]
      rw [Bool.eq_iff_iff, List.any_eq_true, List.any_eq_true]
      constructor
      · rintro ⟨p, hp, hc⟩
        simp only [Bool.and_eq_true] at hc
        exact ⟨p, hp, hc.2⟩
      · rintro ⟨p, hp, hc⟩
        refine ⟨p, hp, ?_⟩
        simp only [Bool.and_eq_true, hc, and_true]
        rw [sameKey_string hc]
        simp [litStr, hd]
  · have hz := h.2 l (List.mem_filter.1 hl).1 z
    have hf : (es.filter fun p => !d (litStr p.1)).find? (fun p => p.1.sameKey (.string l)) = es.find? (fun p => p.1.sameKey (.string l)) := by
      refine find_filter _ _ _ (fun p hp hc => ?_)
      rw [sameKey_string hc]
      simpa [litStr] using (List.mem_filter.1 hl).2
    simp only [Lib.deleteFuncD, DataW.atKey, hf] at hz ⊢
    exact hz

/-! ### In memory -/
/-- Block b of w is a map of at most n entries: the set S. -/
def OwnSet (w : World) (b n : Nat) (S : List (List UInt8)) : Prop := ∃ D : DataW Unit, w.ownsMap Try.prog 9 RB b n D ∧ SetD D S

theorem ownSet_made (w : World) : OwnSet (w.alloc (.map #[] 0)) w.heap.size 0 [] := ⟨_, World.ownsMap_made w _ _ _, setD_empty⟩
theorem OwnSet.lt {w : World} {b n : Nat} {S} (h : OwnSet w b n S) : b < w.heap.size := by obtain ⟨D, h, _⟩ := h; exact h.lt
theorem OwnSet.kept {w w' : World} {b n : Nat} {S} {row : Option Nat} (h : OwnSet w b n S) (hg : w.grownBy w' row) (hne : some b ≠ row) : OwnSet w' b n S := by
  obtain ⟨D, h, hs⟩ := h; exact ⟨D, h.kept hg hne, hs⟩
theorem OwnSet.of_block {w w' : World} {b n : Nat} {S} (h : OwnSet w b n S) (hb : w'.heap[b]? = w.heap[b]?) : OwnSet w' b n S := by
  obtain ⟨D, ⟨es, clock, h1, h2⟩, hs⟩ := h; exact ⟨D, ⟨es, clock, hb.trans h1, h2⟩, hs⟩
theorem OwnSet.mono {w : World} {b n n' : Nat} {S} (h : OwnSet w b n S) (hn : n ≤ n') : OwnSet w b n' S := by obtain ⟨D, h, hs⟩ := h; exact ⟨D, h.mono hn, hs⟩
theorem OwnSet.congr {w : World} {b n : Nat} {S T} (h : OwnSet w b n S) (hst : ∀ l, l ∈ S ↔ l ∈ T) : OwnSet w b n T := by obtain ⟨D, h, hs⟩ := h; exact ⟨D, h, hs.congr hst⟩

theorem OwnSet.look {w : World} {b n : Nat} {S} (h : OwnSet w b n S) (s : ByteArray) (hs : s.size ≤ maxLen) :
    (Instr.lookup 32 (.map (some b)) (.string s) false).run Try.prog w = .ok (.bool (decide (s.data.toList ∈ S))) w := by
  obtain ⟨D, ho, hd⟩ := h
  obtain ⟨v, ps, hrun, hv⟩ := ho.lookup K9 Try.underlying32 (Try.zeroValue4 w) rb_false (keyOf_string_mk (s := s) Try.underlying9 hs)
  obtain ⟨x, rfl, hx⟩ := rb_inv hv
  rw [hd.at] at hx
  simp only [Prod.mk.injEq, DataW.lit.injEq, Lit.bool.injEq] at hx
  rw [hrun, hx.1]

theorem look_none (w : World) (s : ByteArray) (hs : s.size ≤ maxLen) : (Instr.lookup 32 (.map none) (.string s) false).run Try.prog w = .ok (.bool false) w := by
  have := Maps.look_nil (w := w) false K9 Try.underlying32 (Try.zeroValue4 w) (keyOf_string_mk (s := s) Try.underlying9 hs)
  simpa using this

/-- A store of 'true': the set with the key. -/
theorem wpList_add (w : World) {ops : Array Oper} {rest : List Oper} {o : Oper} {a : Act} {Q : Exit → Act → World → Prop}
    (hg : o.guard = none) (m x v : Operand) (hop : o.op = Op.mapUpdate 32 m x v) (b n : Nat) (S : List (List UInt8)) (hm : a.eval m = .map (some b)) (hown : OwnSet w b n S) (hn : n < maxLen)
    (s : ByteArray) (hx : a.eval x = .string s) (hv : a.eval v = .bool true) (hs : s.size ≤ maxLen)
    (hK : ∀ w', OwnSet w' b (n + 1) (s.data.toList :: S) → w.grownBy w' (some b) → wpList Try.prog ops Q rest (a.put o.dst undef) w') :
    wpList Try.prog ops Q (o :: rest) a w := by
  obtain ⟨D, ho, hd⟩ := hown
  exact wpList_mapUpdate_own w hg m x v 32 hop 9 4 K9 Try.underlying32 RB b n D hm ho hn _ _ _ hx hv (keyOf_string_mk (s := s) Try.underlying9 hs) _ [] rb_true
    (fun w' h1 h2 => hK w' ⟨_, h1, hd.put ho.isMap _⟩ h2)

/-- A map value that holds the set S: nil (no key), or a block. -/
def SetV (w : World) (p : Option Nat) (n : Nat) (S : List (List UInt8)) : Prop := (p = none ∧ S = []) ∨ ∃ b, p = some b ∧ OwnSet w b n S

theorem SetV.look {w : World} {p : Option Nat} {n : Nat} {S} (h : SetV w p n S) (s : ByteArray) (hs : s.size ≤ maxLen) :
    (Instr.lookup 32 (.map p) (.string s) false).run Try.prog w = .ok (.bool (decide (s.data.toList ∈ S))) w := by
  rcases h with ⟨rfl, rfl⟩ | ⟨b, rfl, h⟩
  · rw [look_none w s hs]; simp
  · exact h.look s hs

theorem copy_set {w : World} {bd nd n : Nat} {p : Option Nat} {S1 S2 : List (List UInt8)} (hd : OwnSet w bd nd S1) (hs : SetV w p n S2) (hne : p ≠ some bd) (hroom : nd + n ≤ maxLen) :
    Calls Try.prog 17 #[.map (some bd), .map p] w fun e w' => e = .returned (.tuple #[]) ∧ OwnSet w' bd (nd + n) (S2 ++ S1) ∧ w.grownBy w' (some bd) := by
  obtain ⟨Dd, hod, hsd⟩ := hd
  rcases hs with ⟨rfl, rfl⟩ | ⟨b, rfl, Ds, hos, hss⟩
  · refine (Try.maps_Copy K9 RB bd nd none Dd .nil w hod (.inl ⟨rfl, rfl⟩) hne (by simp [Maps.size]; omega)).mono ?_
    rintro e w' ⟨rfl, h1, h2⟩
    exact ⟨rfl, ⟨Dd, h1.mono (by simp [Maps.size]), hsd⟩, h2⟩
  · have hsz := hos.size_le
    refine (Try.maps_Copy K9 RB bd nd (some b) Dd Ds w hod (.inr ⟨b, n, rfl, hos⟩) hne (by omega)).mono ?_
    rintro e w' ⟨rfl, h1, h2⟩
    obtain ⟨es, rfl, hap, hk⟩ := hos.entries K9
    exact ⟨rfl, ⟨_, h1.mono (by omega), hsd.merge hod.isMap hss hap hk⟩, h2⟩

theorem delete_set {w : World} {b n : Nat} {S : List (List UInt8)} (h : OwnSet w b n S) (d : List UInt8 → Bool) (g : Nat) (cb : Array Value)
    (eg : ∀ args w, (callFunc g args).run Try.prog w = .ok (.enter g args) w)
    (hdel : ∀ (W : World) (s : ByteArray) (x : Bool), w.grownBy W (some b) → s.size ≤ maxLen → Calls Try.prog g (#[.string s, .bool x] ++ cb) W fun e w' => e = .returned (.bool (d s.data.toList)) ∧ W.grownBy w' none) :
    Calls Try.prog 18 #[.map (some b), .func (.func g) #[] cb] w fun e w' => e = .returned (.tuple #[]) ∧ OwnSet w' b n (S.filter fun l => !d l) ∧ w.grownBy w' (some b) := by
  obtain ⟨D, ho, hs⟩ := h
  refine (Try.maps_DeleteFunc K9 RB (fun k _ => d (litStr k)) g cb b n D w eg ho (fun W key val kl yd yp hg hk hv => ?_)).mono ?_
  · obtain ⟨x, rfl, _⟩ := rb_inv hv
    obtain ⟨l, rfl, rfl, hsz⟩ := Maps.keyOf_str Try.underlying9 hk
    exact hdel W ⟨l.toArray⟩ x hg (by simpa [ByteArray.size] using hsz)
  · rintro e w' ⟨rfl, h1, h2⟩
    obtain ⟨es, rfl, _⟩ := ho.entries K9
    exact ⟨rfl, ⟨_, h1, hs.strike d⟩, h2⟩
end Go.Proofs.Qxb6618872a
