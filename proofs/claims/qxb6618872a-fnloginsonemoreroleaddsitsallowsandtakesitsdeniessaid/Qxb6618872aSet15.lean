/-
  zzSet: the set of a slice of strings; ZZnewRole, ZZnewPolicy.
-/
import Derived.Test.Qxb6618872aHelp2
namespace Go.Proofs.Qxb6618872a
open Go Go.RowKit

/-- The strings of a list, as bytes. -/
def keysOf (ss : List ByteArray) : List (List UInt8) := ss.map fun s => s.data.toList

theorem q23 : ∀ (w : World) (a : Option Addr) (n c n' c' : Nat), (binOp .eql 23 (.slice a n c) (.slice none n' c')).run Try.prog w = .ok (.bool a.isNone) w :=
  fun w a n c n' c' => Lib.run_eql_slice_nil w _ _ a n c n' c' Try.underlying23

theorem run_makeMap_n (w : World) (n : Int) : (Instr.makeMap 32 (some (.int .i64 n))).run Try.prog w = .ok (.map (some w.heap.size)) (w.alloc (.map #[] 0)) := by
  simp [Instr.makeMap, run_underlying Try.underlying32, asInt, asIntOf, Result.andThen]

theorem zzSet_nil (c : Nat) (w : World) : Calls Try.prog 15 #[.slice none 0 c] w fun e w' => e = .returned (.map none) ∧ w = w' := by
  have q := q23
  go_enter Try.func15, Try.ntmps15
  go_wp2
  go_ret
  exact ⟨rfl, rfl⟩

theorem keys_snoc (ss : List ByteArray) (k : Nat) (h : k < ss.length) (l : List UInt8) : l ∈ (ss.getD k ByteArray.empty).data.toList :: keysOf (ss.take k) ↔ l ∈ keysOf (ss.take (k + 1)) := by
  unfold keysOf
  rw [List.take_succ_eq_append_getElem h, List.map_append, List.mem_append]
  simp only [List.mem_cons, List.getD, List.getElem?_eq_getElem h, Option.getD_some, List.map_cons, List.map_nil, List.not_mem_nil, or_false]
  exact Or.comm

set_option maxHeartbeats 1000000 in
theorem zzSet_some (x : Addr) (n c : Nat) (ss : List ByteArray) (w : World) (hn : n ≤ 1048576) (hs : StrsAt w (some x) n ss) :
    Calls Try.prog 15 #[.slice (some x) n c] w fun e w' => e = .returned (.map (some w.heap.size)) ∧ OwnSet w' w.heap.size n (keysOf ss) ∧ w.grownBy w' none := by
  have q := q23
  have hmm := run_makeMap_n
  obtain ⟨hl, hnil, hsz, hcell⟩ := hs
  have key : n ≤ 0 ∨ (0 < n ∧ ∃ b off, b < w.heap.size ∧ x = ⟨b, off, none⟩ ∧ Hid (∀ i, i < n → w.cell? ⟨b, off + i, none⟩ = some (.string (ss.getD i ByteArray.empty)))) := by
    by_cases h0 : 0 < n
    · obtain ⟨b, off, hb, ha, hc⟩ := hcell h0
      exact .inr ⟨h0, b, off, hb, Option.some.inj ha, hc⟩
    · exact .inl (by omega)
  clear hcell hnil
  rcases key with hn0 | ⟨hpos, b, off, hb, rfl, HC⟩
  all_goals
    go_enter Try.func15, Try.ntmps15
    go_wp2
    go_loopw [5, 13] (fun _ i wr => ∃ k : Nat, k ≤ n ∧ i = .int .i64 k ∧ OwnSet wr w.heap.size k (keysOf (ss.take k)) ∧ w.grownBy wr none) (fun _ i _ => n - (intOf i).toNat)
    case atStart => exact ⟨0, Nat.zero_le _, rfl, ownSet_made w, World.grownBy_alloc _ _ _⟩
    case round =>
      obtain ⟨k, hk, rfl, hown, hg⟩ := hrel
      by_cases hlt : k < n
      · try (exfalso; omega)
        all_goals
          have hbel : Below w.heap.size w wr := (Below.refl _ _).grown hg (Nat.le_refl _) (fun j h => by cases h)
          have hc := (hbel.cell (p := ⟨b, off + k, none⟩) hb).trans (HC.out k hlt)
          have hss := getD_size hsz k
          have HKS := hd (keys_snoc ss k (by omega))
          have HG := hd hg
          have HOW := hd hown
          clear hg hown hbel
          generalize ss.getD k ByteArray.empty = s at hc hss HKS
          go_wp2_with (at_mapUpdate; refine wpList_add _ rfl _ _ _ rfl w.heap.size k _ rfl HOW.out (by unfold maxLen; omega) s rfl rfl hss ?_; intro w1 hown1 hgrow1)
          have HR := hd (And.intro (hown1.congr HKS.out) (show w.grownBy w1 none from ⟨hgrow1.os.trans HG.out.os, hgrow1.tape.trans HG.out.tape, hgrow1.output.trans HG.out.output, Nat.le_trans HG.out.size hgrow1.size, fun j hj _ => by
            rw [hgrow1.block j (Nat.lt_of_lt_of_le hj HG.out.size) (fun e => by have := Option.some.inj e; omega), HG.out.block j hj (by simp)]⟩))
          clear hown1 hgrow1
          go_wp2
          go_roundw
          case rel => exact ⟨k + 1, by omega, by go_num, HR.out.1, HR.out.2⟩
          case measure => simp [intOf]; omega
      · have HR := hd (And.intro (hown.mono hk) hg)
        have HT := hd (show ss.take k = ss from List.take_of_length_le (by omega))
        clear hown hg
        go_wp2
        go_ret
        refine ⟨rfl, ?_, HR.out.2⟩
        have := HR.out.1
        rwa [HT.out] at this

/-- zzSet: nil of nil; else a new map. -/
theorem zzSet (ao : Option Addr) (n c : Nat) (ss : List ByteArray) (w : World) (hn : n ≤ 1048576) (hs : StrsAt w ao n ss) :
    Calls Try.prog 15 #[.slice ao n c] w fun e w' => ∃ p, e = .returned (.map p) ∧ SetV w' p n (keysOf ss) ∧ (∀ b, p = some b → w.heap.size ≤ b) ∧ w.grownBy w' none := by
  cases ao with
  | none =>
    have h0 := hs.2.1 rfl
    subst h0
    have hl := hs.1
    have : ss = [] := List.eq_nil_of_length_eq_zero hl
    subst this
    refine (zzSet_nil c w).mono ?_
    rintro e w' ⟨rfl, rfl⟩
    exact ⟨none, rfl, .inl ⟨rfl, rfl⟩, fun b h => (by cases h), World.grownBy.refl _ _⟩
  | some x =>
    refine (zzSet_some x n c ss w hn hs).mono ?_
    rintro e w' ⟨rfl, h1, h2⟩
    exact ⟨_, rfl, .inr ⟨_, rfl, h1⟩, fun b h => (by cases h; exact Nat.le_refl _), h2⟩

end Go.Proofs.Qxb6618872a
