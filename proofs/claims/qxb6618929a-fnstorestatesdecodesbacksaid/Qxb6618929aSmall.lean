/-
  zzGrow; zzSameOpt and zzCardsMatch of what is the same.
-/
import Derived.Test.Qxb6618929aZin
namespace Go.Proofs.Qxb6618929a
open Go Go.RowKit

attribute [local go_sem] qz77 qs77 qz36 qs36

/-- What zzGrow answers: at most 1048577; up to 1048576 only where nothing was too much. -/
def Grown (r n c k : Int) : Prop := 0 ≤ r ∧ r ≤ 1048577 ∧ (r ≤ 1048576 → n ≤ 1048576 ∧ c * k ≤ 1048576)

theorem grow22 (n c k : Int) (w : World) (h0 : 0 ≤ n) (h1 : n ≤ 1048577) (h2 : 0 ≤ c) (h3 : c ≤ 9223372036854775807) (hk : k = 1 ∨ k = 64 ∨ k = 96 ∨ k = 256) :
    Calls Try.prog 22 #[.int .i64 n, .int .i64 c, .int .i64 k] w fun e w' => (∃ r : Int, e = .returned (.int .i64 r) ∧ Hid (Grown r n c k)) ∧ w' = w := by
  by_cases hn : 1048576 < n
  · rcases hk with rfl | rfl | rfl | rfl
    all_goals
      have d1 : decide ((1048576 : Int) < n) = true := by simp; omega
      go_enter Try.func22, Try.ntmps22
      go_wp2
      go_ret
      exact ⟨⟨_, rfl, by omega, by omega, fun h => by omega⟩, rfl⟩
  · have d1 : decide ((1048576 : Int) < n) = false := by simp; omega
    rcases hk with rfl | rfl | rfl | rfl
    all_goals
      go_enter Try.func22, Try.ntmps22
      go_wp2
      all_goals
        go_ret
        exact ⟨⟨_, rfl, by omega, by omega, fun h => by omega⟩, rfl⟩

theorem sameOpt (v1 v2 : Value) (o : Option Int) (R R' : Nat → Prop) (w : World) (h1 : OptAt w R v1 o) (h2 : OptAt w R' v2 o) : Calls Try.prog 35 #[v1, v2] w fun e w' => e = .returned (.bool true) ∧ ∃ m, w' = w.drewN m := by
  cases o with
  | none =>
    have h1 : v1 = .pointer none := h1
    have h2 : v2 = .pointer none := h2
    subst h1; subst h2
    go_enter Try.func35, Try.ntmps35
    go_wp2
    go_ret
    exact ⟨rfl, 0, rfl⟩
  | some x =>
    obtain ⟨a, rfl, _, ha⟩ := h1
    obtain ⟨b, rfl, _, hb⟩ := h2
    go_enter Try.func35, Try.ntmps35
    go_wp2
    go_quiet (fail)
    go_wp2
    go_ret
    exact ⟨rfl, _, rfl⟩

theorem cardsMatch (v1 v2 : Value) (o : Option (List UInt8)) (R R' : Nat → Prop) (w : World) (h1 : CardsAt w R v1 o) (h2 : CardsAt w R' v2 o) (hl : CardsOk o) : Calls Try.prog 38 #[v1, v2] w fun e w' => e = .returned (.bool true) ∧ ∃ m, w' = w.drewN m := by
  cases o with
  | none =>
    have h1 : v1 = .slice none 0 0 := h1
    have h2 : v2 = .slice none 0 0 := h2
    subst h1; subst h2
    go_enter Try.func38, Try.ntmps38
    go_wp2
    go_loop [5, 20] (fun _ i => i = .int .i64 0) (fun _ _ => 0)
    case atStart => rfl
    case round =>
      subst hrel
      go_wp2
      go_ret
      exact ⟨rfl, 0, rfl⟩
  | some cs =>
    unfold CardsOk at hl
    simp only [Option.getD_some] at hl
    obtain ⟨a, ca, rfl, p1⟩ := h1
    obtain ⟨b, cb, rfl, p2⟩ := h2
    have key : cs.length ≤ 0 ∨ (0 < cs.length ∧ ∃ b1 o1 b2 o2, a = ⟨b1, o1, none⟩ ∧ b = ⟨b2, o2, none⟩ ∧ Hid (∀ j, j < cs.length → w.cell? ⟨b1, o1 + j, none⟩ = some (.int .u8 (cs.getD j 0).toNat) ∧ w.cell? ⟨b2, o2 + j, none⟩ = some (.int .u8 (cs.getD j 0).toNat))) := by
      by_cases h0 : 0 < cs.length
      · rcases p1 with p1 | ⟨b1, o1, e1, _, c1⟩
        · omega
        rcases p2 with p2 | ⟨b2, o2, e2, _, c2⟩
        · omega
        exact .inr ⟨h0, b1, o1, b2, o2, e1, e2, fun j hj => ⟨c1 j hj, c2 j hj⟩⟩
      · exact .inl (by omega)
    clear p1 p2
    rcases key with h0 | ⟨h0, b1, o1, b2, o2, rfl, rfl, HC⟩
    all_goals
      go_enter Try.func38, Try.ntmps38
      go_wp2
      go_loopw [5, 20] (fun _ i wr => ∃ k : Nat, k ≤ cs.length ∧ i = .int .i64 k ∧ ∃ m, wr = w.drewN m) (fun _ i _ => cs.length - (intOf i).toNat)
      case atStart => exact ⟨0, Nat.zero_le _, rfl, 0, rfl⟩
      case round =>
        obtain ⟨k, hk, rfl, m, rfl⟩ := hrel
        by_cases hlt : k < cs.length
        · try (exfalso; omega)
          all_goals
            obtain ⟨c1, c2⟩ := HC.out k hlt
            generalize cs.getD k 0 = x at c1 c2
            go_wp2
            go_quiet (fail)
            go_wp2
            go_roundw
            case rel => exact ⟨k + 1, by omega, by go_num, _, rfl⟩
            case measure => simp [intOf]; omega
        · go_wp2
          go_ret
          exact ⟨rfl, _, rfl⟩
end Go.Proofs.Qxb6618929a
