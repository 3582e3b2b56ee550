/-
  A PROOF OF 'Rows.FnIsNullOneBytePutInCompletesNullSaid'. The frame is the seat's given shell (proof-skeleton.mjs); the walk is typed here.
-/
import Derived.Test.Qxb6618967aBase
import Derived.Deep.QuietTactic
import Derived.BigQuiet
import Derived.Deep.DeepCutAuto
import Derived.Deep.LoopGhost
import Derived.WalkKit
import Derived.ProofKit
import Derived.OpenShut
import Derived.ShutString
import Derived.ChangeOld
import Derived.Below
namespace Go.Proofs.Qxb6618967a.fnIsNullOneBytePutInCompletesNull
open Go.ChangeShapes Go.WideShapes Go.ChangeAt Go.RowKit
open Go.ChangeMaps (open_string shut_string)
set_option linter.unusedVariables false

theorem own : ownKnob Try.prog.godebug = none := by kernel_rfl
theorem laidOut : laidOutB Try.prog = true := by kernel_rfl

/-- WHAT THE WALK IS TOLD OF A SLICE OF INTEGERS THAT CAME IN: it is nil; or it leads to a row of 'cap' cells, the numbers 'zs' (the first 'len' are its elements, the rest its spare room), each fitting its kind. -/
def IsRow (k : IntKind) (w : World) (a : Option Addr) (len cap : Nat) (zs : List Int) : Prop :=
  (a = none ∧ len = 0 ∧ cap = 0 ∧ zs = []) ∨
  ∃ x, a = some x ∧ len ≤ cap ∧ cap ≤ maxLen ∧ zs.length = cap ∧ (∀ i, i < zs.length → w.cell? (x.add i) = some (.int k (zs.getD i 0))) ∧ ∀ n ∈ zs, (Lit.int k n).wf = true

/-! ### STEP 1: THE WALK -/
def nb (k : Int) : Int := if k = 0 then 110 else if k = 1 then 117 else if k = 2 ∨ k = 3 then 108 else 0

theorem ret_int {k : IntKind} {a b : Int} (h : a = b) : Ending.returned (.int k a) = .returned (.int k b) := by rw [h]

theorem nb_any (k : Int) (w : World) : Calls Try.prog 6 #[.int .i64 k] w fun e w' => e = .returned (.int .u8 (nb k)) ∧ w' = w := by
  by_cases h0 : k = 0
  · subst h0
    go_enter Try.func6, Try.ntmps6
    go_wp2
    go_ret
    exact ⟨rfl, rfl⟩
  · by_cases h1 : k = 1
    · subst h1
      go_enter Try.func6, Try.ntmps6
      go_wp2
      go_ret
      exact ⟨rfl, rfl⟩
    · by_cases h2 : k = 2
      · subst h2
        go_enter Try.func6, Try.ntmps6
        go_wp2
        go_ret
        exact ⟨rfl, rfl⟩
      · by_cases h3 : k = 3
        · subst h3
          go_enter Try.func6, Try.ntmps6
          go_wp2
          go_ret
          exact ⟨rfl, rfl⟩
        · have e0 : (k == 0) = false := by simp [h0]
          have e1 : (k == 1) = false := by simp [h1]
          have e2 : (k == 2) = false := by simp [h2]
          have e3 : (k == 3) = false := by simp [h3]
          go_enter Try.func6, Try.ntmps6
          go_wp2
          go_ret
          exact ⟨ret_int (by simp [nb, h0, h1, h2, h3]), rfl⟩

/-- The byte that 'null' with its place q taken out has at j. -/
def ex (q j : Nat) : Int := nb (if q ≤ j then (j : Int) + 1 else j)
def okB (zs : List Int) (q j : Nat) : Bool := (List.range j).all fun i => zs.getD i 0 == ex q i
def wantI (zs : List Int) (n q : Nat) : Int := if n = 3 ∧ okB zs q 3 = true then nb q else -1

theorem okB_step (zs : List Int) (q j : Nat) : okB zs q (j + 1) = (okB zs q j && zs.getD j 0 == ex q j) := by
  simp [okB, List.range_succ]

theorem want_null (zs : List Int) (n q : Nat) (c : Int) (hz : zs.length = n) (hq : q ≤ n) (hc : 0 ≤ c) : nullB (zs.take q ++ c :: zs.drop q) = (c == wantI zs n q) := by
  by_cases h3 : n = 3
  · subst h3
    match zs, hz with
    | [x0, x1, x2], _ =>
      have hq' : q = 0 ∨ q = 1 ∨ q = 2 ∨ q = 3 := by omega
      rcases hq' with rfl | rfl | rfl | rfl
      all_goals
        simp only [nullB, nulls, wantI, okB, ex, nb]
        rw [Bool.eq_iff_iff]
        simp [List.range_succ]
        split <;> omega
  · have : nullB (zs.take q ++ c :: zs.drop q) = false := by
      unfold nullB
      rw [beq_eq_false_iff_ne]
      intro h
      have := congrArg List.length h
      simp [nulls] at this
      omega
    rw [this]
    simp [wantI, h3]
    omega

theorem nb_bd (q : Int) : 0 ≤ nb q ∧ nb q ≤ 255 := by unfold nb; split <;> (try split) <;> (try split) <;> omega
theorem want_bd (zs : List Int) (n q : Nat) : -1 ≤ wantI zs n q ∧ wantI zs n q ≤ 255 := by
  unfold wantI; split
  · have := nb_bd q; omega
  · omega

/-- The call's own row: n numbers given by a function. -/
def row (f : Nat → Int) (m : Nat) : List Value := (List.range m).map fun i => .int .u8 (f i)
theorem row_len (f : Nat → Int) (m : Nat) : (row f m).length = m := by simp [row]
theorem row_at (f : Nat → Int) (m i : Nat) (h : i < m) : (row f m)[i]? = some (.int .u8 (f i)) := by simp [row, h]
theorem row_congr {f g : Nat → Int} {m : Nat} (h : ∀ i, i < m → f i = g i) : row f m = row g m := by
  unfold row; apply List.map_congr_left; intro i hi; rw [h i (by simpa using hi)]
theorem row_set (f : Nat → Int) (m j : Nat) (x : Int) : (row f m).set j (.int .u8 x) = row (fun i => if i = j then x else f i) m := by
  apply List.ext_getElem?
  intro i
  rw [List.getElem?_set]
  by_cases hi : i < m
  · rw [row_at _ _ _ hi, row_at _ _ _ hi]
    by_cases e : j = i
    · subst e; simp [row_len, hi]
    · simp [e, Ne.symm e]
  · have h1 : (row f m)[i]? = none := List.getElem?_eq_none (by rw [row_len]; omega)
    have h2 : ∀ g, (row g m)[i]? = none := fun g => List.getElem?_eq_none (by rw [row_len]; omega)
    simp [h1, h2, row_len]
    try omega

/-- What the new row holds ahead of round j of the first loop, of the second one, and with the byte c put in. -/
def f1 (zs : List Int) (j i : Nat) : Int := if i < j then zs.getD i 0 else 0
def f2 (zs : List Int) (q j i : Nat) : Int := if i < q then zs.getD i 0 else if i = q then 0 else if i ≤ j then zs.getD (i - 1) 0 else 0
def f3 (zs : List Int) (q : Nat) (c : Int) (i : Nat) : Int := if i < q then zs.getD i 0 else if i = q then c else zs.getD (i - 1) 0

theorem f3_list (zs : List Int) (n q : Nat) (c : Int) (hz : zs.length = n) (hq : q ≤ n) (i : Nat) (hi : i < n + 1) : f3 zs q c i = (zs.take q ++ c :: zs.drop q).getD i 0 := by
  have hl : (zs.take q).length = q := by simp; omega
  unfold f3
  by_cases h1 : i < q
  · have : i < zs.length := by omega
    simp [h1, List.getD, List.getElem?_append, hl, this]
  · by_cases h2 : i = q
    · subst h2; simp [List.getD, hl]
    · obtain ⟨j, rfl⟩ : ∃ j, i = q + 1 + j := ⟨i - q - 1, by omega⟩
      simp only [List.getD, List.getElem?_append, hl, h1, h2, if_false]
      rw [show q + 1 + j - q = j + 1 by omega, List.getElem?_cons_succ, List.getElem?_drop]
      rw [show q + 1 + j - 1 = q + j by omega]

def cntW (wt : Int) (c : Nat) : Int := if 0 ≤ wt ∧ wt < c then 1 else 0
def gotW (wt : Int) (c : Nat) : Int := if 0 ≤ wt ∧ wt < c then wt else -1
theorem cntW_bd (wt : Int) (c : Nat) : 0 ≤ cntW wt c ∧ cntW wt c ≤ 1 := by unfold cntW; split <;> omega
theorem cntW_hit (wt : Int) (c : Nat) (h : (c : Int) = wt) : cntW wt c + 1 = cntW wt (c + 1) ∧ (c : Int) = gotW wt (c + 1) := by
  subst h; simp [cntW, gotW]; omega
theorem cntW_miss (wt : Int) (c : Nat) (h : ¬ (c : Int) = wt) : cntW wt c = cntW wt (c + 1) ∧ gotW wt c = gotW wt (c + 1) := by
  have : (0 ≤ wt ∧ wt < (c : Int)) ↔ (0 ≤ wt ∧ wt < ((c + 1 : Nat) : Int)) := by omega
  simp only [cntW, gotW, this]; trivial
theorem getD_bd {zs : List Int} (hw : ∀ z ∈ zs, 0 ≤ z ∧ z ≤ 255) (k : Nat) : 0 ≤ zs.getD k 0 ∧ zs.getD k 0 ≤ 255 := by
  rw [List.getD]
  by_cases h : k < zs.length
  · rw [List.getElem?_eq_getElem h]; exact hw _ (List.getElem_mem _)
  · rw [List.getElem?_eq_none (by omega)]; simp
end Go.Proofs.Qxb6618967a.fnIsNullOneBytePutInCompletesNull
