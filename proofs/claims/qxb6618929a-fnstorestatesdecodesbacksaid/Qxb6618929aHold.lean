/-
  A REGION THAT DRAWS WHOSE LAST OPERATION WRITES WHAT ANOTHER READS: what is held is held up to that last operation (after the library's law on what is held throughout: OrdersHeld).
-/
import Derived.OrdersHeld
import Derived.StillTail
import Derived.Deep.RegionHeld
namespace Go.Proofs.Qxb6618929a
open Go

section
variable {P : Program} {ops : Array Oper} {md : Region.Mode} {Q : Exit → Act → World → Prop} {S : World → Prop}

/-- Whatever order is picked from here on; S holds behind every operation but z. -/
def wpAnyZ (P : Program) (md : Region.Mode) (ops : Array Oper) (Q : Exit → Act → World → Prop) (S : World → Prop) (z : Nat) : Nat → Array Bool → Act → World → Prop
  | 0, listed, a, w => Region.ready md ops listed = [] ∧ Q .normal a w
  | fuel + 1, listed, a, w =>
    (Region.ready md ops listed = [] → Q .normal a w) ∧
    ∀ i ∈ Region.ready md ops listed, wpOp P ops Q i (fun a' w' => (i ≠ z → S w') ∧ wpAnyZ P md ops Q S z fuel (listed.setIfInBounds i true) a' w') a w

theorem wpAny_of_Z {z : Nat} : ∀ (fuel : Nat) (listed : Array Bool) (a : Act) (w : World), wpAnyZ P md ops Q S z fuel listed a w → wpAny P md ops Q fuel listed a w
  | 0, _, _, _, h => h
  | fuel + 1, _, _, _, h => ⟨h.1, fun i hi => wpOp_mono (fun a' w' h' => wpAny_of_Z fuel _ a' w' h'.2) (h.2 i hi)⟩

/-- x waits for y, over the operations of c. -/
def pathB (md : Region.Mode) (ops : Array Oper) : Nat → List Nat → Nat → Bool
  | x, [], y => Region.waitsFor md ops x y
  | x, u :: c, y => Region.waitsFor md ops x u && pathB md ops u c y

theorem listed_of_waits {listed : Array Bool} (hcl : ∀ j oj, ops[j]? = some oj → listed.getD j false = true → ∀ e ∈ oj.after, Region.binds md e = true → listed.getD e.on false = true)
    {x y : Nat} (h : Region.waitsFor md ops x y = true) (hx : listed.getD x false = true) : listed.getD y false = true := by
  obtain ⟨oj, h1, e, h2, h3, h4⟩ := Region.waitsFor_spec h
  rw [← h4]
  exact hcl x oj h1 hx e h2 h3
theorem listed_of_path {listed : Array Bool} (hcl : ∀ j oj, ops[j]? = some oj → listed.getD j false = true → ∀ e ∈ oj.after, Region.binds md e = true → listed.getD e.on false = true) :
    ∀ (c : List Nat) (x y : Nat), pathB md ops x c y = true → listed.getD x false = true → listed.getD y false = true
  | [], _, _, h, hx => listed_of_waits hcl h hx
  | u :: c, x, y, h, hx => by
    simp only [pathB, Bool.and_eq_true] at h
    exact listed_of_path hcl c u y h.2 (listed_of_waits hcl h.1 hx)
theorem listed_of_ready {listed : Array Bool} (hcl : ∀ j oj, ops[j]? = some oj → listed.getD j false = true → ∀ e ∈ oj.after, Region.binds md e = true → listed.getD e.on false = true) {z : Nat} (hz : z ∈ Region.ready md ops listed) :
    ∀ (c : List Nat) (y : Nat), pathB md ops z c y = true → listed.getD y false = true := by
  obtain ⟨_, oz, hoz, hall⟩ := mem_ready.1 hz
  have one : ∀ u, Region.waitsFor md ops z u = true → listed.getD u false = true := fun u h => by
    obtain ⟨oj, h1, e, h2, h3, h4⟩ := Region.waitsFor_spec h
    have : oj = oz := Option.some.inj (h1.symm.trans hoz)
    subst this
    rw [← h4]
    exact hall e h2 h3
  intro c y h
  cases c with
  | nil => exact one y h
  | cons u c =>
    simp only [pathB, Bool.and_eq_true] at h
    exact listed_of_path hcl c u y h.2 (one u h.1)

/-- Every listed operation's grounds are listed. -/
def Shut (md : Region.Mode) (ops : Array Oper) (listed : Array Bool) : Prop := ∀ j oj, ops[j]? = some oj → listed.getD j false = true → ∀ e ∈ oj.after, Region.binds md e = true → listed.getD e.on false = true
theorem Shut.set {listed : Array Bool} (h : Shut md ops listed) {i : Nat} (hi : i ∈ Region.ready md ops listed) : Shut md ops (listed.setIfInBounds i true) := by
  obtain ⟨_, oi, hoi, hall⟩ := mem_ready.1 hi
  intro j oj hj hl e he hb
  by_cases hij : i = j
  · subst hij
    have : oj = oi := Option.some.inj (hj.symm.trans hoi)
    subst this
    exact getD_set_true (hall e he hb)
  · rw [getD_set_ne false hij] at hl
    exact getD_set_true (h j oj hj hl e he hb)

theorem wpAnyZ_first {i z : Nat} {oi : Oper} {v : Value} {c : List Nat} (hi : ops[i]? = some oi) (hsel : ∀ (j : Nat) (o : Oper) cs b, ops[j]? = some o → o.op ≠ .select cs b)
    (hQ : ∀ c a w, Q (.panic c) (a.put oi.dst v) w → Q (.panic c) a w) (hpath : pathB md ops z c i = true) :
    ∀ (fuel : Nat) (listed : Array Bool) (a : Act) (w : World), Shut md ops listed →
      (∀ j oj, ops[j]? = some oj → j ≠ i → listed.getD j true = false → (∀ e ∈ oj.after, Region.binds md e = true → e.on ≠ i) → oi.apart ops oj = true) →
      i ∈ Region.ready md ops listed → YieldsIf P ops S oi v a → S w →
      wpAnyZ P md ops Q S z fuel (listed.setIfInBounds i true) (a.put oi.dst v) w → wpAnyZ P md ops Q S z (fuel + 1) listed a w := by
  intro fuel
  induction fuel with
  | zero =>
    intro listed a w _ _ hr hy hS H
    refine ⟨fun h => (by rw [h] at hr; cases hr), fun j hj => ?_⟩
    by_cases hji : j = i
    · subst hji; exact hy.wpOp hi hS ⟨fun _ => hS, H⟩
    · have := ready_mono hj hji
      rw [H.1] at this
      cases this
  | succ fuel ih =>
    intro listed a w hsh hfree hr hy hS H
    refine ⟨fun h => (by rw [h] at hr; cases hr), fun j hj => ?_⟩
    by_cases hji : j = i
    · subst hji; exact hy.wpOp hi hS ⟨fun _ => hS, H⟩
    · have h1 := H.2 j (ready_mono hj hji)
      obtain ⟨hjun, oj, hoj, hall⟩ := mem_ready.1 hj
      have hiun := (mem_ready.1 hr).1
      have hjz : j ≠ z := fun e => by
        subst e
        have h2 := listed_of_ready hsh hj c i hpath
        rw [getD_both hiun] at h2
        cases h2
      have hnot : ∀ e ∈ oj.after, Region.binds md e = true → e.on ≠ i := fun e he hb heq => by
        have h2 := hall e he hb
        rw [heq, getD_both hiun] at h2
        cases h2
      have h2 := wpOp_putIf hoj (hfree j oj hoj hji hjun hnot) (fun cs b => hsel i oi cs b hi) (fun cs b => hsel j oj cs b hoj) hQ hy h1
      have hfree' : ∀ k ok, ops[k]? = some ok → k ≠ i → (listed.setIfInBounds j true).getD k true = false →
          (∀ e ∈ ok.after, Region.binds md e = true → e.on ≠ i) → oi.apart ops ok = true := fun k ok hk hki hun hno => by
        refine hfree k ok hk hki ?_ hno
        by_cases hjk : j = k
        · subst hjk; exact hjun
        · rw [getD_set_ne true hjk] at hun; exact hun
      refine wpOp_mono (fun a' w' h3 => ⟨fun _ => h3.2.1 hjz, ih (listed.setIfInBounds j true) a' w' (hsh.set hj) hfree' (ready_mono hr (Ne.symm hji)) h3.1 (h3.2.1 hjz) ?_⟩) h2
      rw [Array.setIfInBounds_comm _ _ hji]
      exact h3.2.2

/-- With the grounds of what is listed: the state of a walk. -/
def wpZ (P : Program) (ops : Array Oper) (Q : Exit → Act → World → Prop) (S : World → Prop) (z fuel : Nat) (listed : Array Bool) (a : Act) (w : World) : Prop := Shut .any ops listed → wpAnyZ P .any ops Q S z fuel listed a w

theorem wpZ_take {i z : Nat} {oi : Oper} {v : Value} (c : List Nat) {fuel : Nat} {listed : Array Bool} {a : Act} {w : World} (hi : ops[i]? = some oi)
    (hs : Region.noSelect ops = true) (hf : Region.free .any ops listed i = true) (hr : (Region.ready .any ops listed).contains i = true) (hpath : pathB .any ops z c i = true)
    (hQ : ∀ c a w, Q (.panic c) (a.put oi.dst v) w → Q (.panic c) a w) (hy : YieldsIf P ops S oi v a) (hS : S w)
    (h : wpZ P ops Q S z fuel (listed.setIfInBounds i true) (a.put oi.dst v) w) : wpZ P ops Q S z (fuel + 1) listed a w := fun hsh =>
  have hr' : i ∈ Region.ready .any ops listed := by simpa using hr
  wpAnyZ_first hi (Region.noSelect_spec hs) hQ hpath fuel listed a w hsh (Region.free_spec hi hf) hr' hy hS (h (hsh.set hr'))

/-- One operation alone may come up. -/
theorem wpZ_one {i z : Nat} {fuel : Nat} {listed : Array Bool} {a : Act} {w : World} (hr : Region.ready .any ops listed = [i])
    (h : wpOp P ops Q i (fun a' w' => (i ≠ z → S w') ∧ wpZ P ops Q S z fuel (listed.setIfInBounds i true) a' w') a w) : wpZ P ops Q S z (fuel + 1) listed a w := fun hsh =>
  ⟨fun h0 => (by rw [hr] at h0; cases h0), fun j hj => (by
    rw [hr] at hj
    have e : j = i := by simpa using hj
    subst e
    exact wpOp_mono (fun a' w' h' => ⟨h'.1, h'.2 (hsh.set (by rw [hr]; simp))⟩) h)⟩
theorem wpZ_done {z fuel : Nat} {listed : Array Bool} {a : Act} {w : World} (hr : Region.ready .any ops listed = []) (h : Q .normal a w) : wpZ P ops Q S z fuel listed a w := fun _ => by
  cases fuel with
  | zero => exact ⟨hr, h⟩
  | succ f => exact ⟨fun _ => h, by rw [hr]; simp⟩

theorem wp_region_Z {id : Nat} {a : Act} {w : World} (S : World → Prop) (z : Nat) (hm : P.follows .mixedOrders = true)
    (h : wpZ P ops Q S z ops.size (Array.replicate ops.size false) a w.drew) : (Code.region id ops true).wp P Q a w :=
  wp_region_any hm (wpAny_of_Z _ _ _ _ (h (fun j oj hj hl => by rw [getD_replicate_false] at hl; cases hl)))
end
end Go.Proofs.Qxb6618929a
