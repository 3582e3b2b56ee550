/-
  ZZloginsNamed and zzRisingWithin.
-/
import Derived.Test.Qxb6618872aLogins
namespace Go.Proofs.Qxb6618872a
open Go Go.RowKit

set_option maxRecDepth 100000 in
theorem loginsNamed {w : World} {p : Value} {rs : List RIn} (hp : PolAt w p rs) (hn : rs.length ≤ 1048577) (hsm : ∀ r ∈ rs, Small r) (pk : ByteArray) :
    Calls Try.prog 7 #[p, .string pk] w fun e w' => ∃ (v : Value) (L : List (List UInt8)), e = .returned v ∧ Rising L ∧ (∀ l, l ∈ L ↔ l ∈ allowed rs pk ∧ denied rs l = false) ∧ (∀ l ∈ L, l.length ≤ maxLen) ∧ L.length ≤ 2199023255552 ∧
      w'.ownsRow w.heap.size 9 1 v L.length (L.map encStr) ∧ w.grownBy w' none := by
  have hbl : Below w.heap.size w (w.alloc (.cells #[.string pk] 9)) := (Below.refl w.heap.size w).alloc (Nat.le_refl _) _
  have HL := hd (logins (hp.below hbl) hn hsm w.heap.size pk (by simp) (by simp))
  clear hp hsm hbl
  go_enter Try.func7, Try.ntmps7
  go_wp2_with (go_at_call 12; refine HL.out.mono ?_; rintro e w7 ⟨v, L, rfl, h1, h2, h3, h4, h5, h6⟩; have HL := hd (And.intro h1 (And.intro h2 (And.intro h3 (And.intro h4 (And.intro h5 h6))))); clear h1 h2 h3 h4 h5 h6)
  go_ret
  obtain ⟨h1, h2, h3, h4, h5, h6⟩ := HL.out
  refine ⟨v, L, rfl, h1, h2, h3, h4, owns_base h5 (by simp), ?_⟩
  exact below_grown (((Below.refl _ _).alloc (Nat.le_refl _) _).trans ((grown_below h6).mono (by simp)))

/-- A slice of strings: the list L. -/
def Lies (w : World) (v : Value) (L : List (List UInt8)) : Prop :=
  L.length ≤ 2199023255552 ∧ (∀ l ∈ L, l.length ≤ maxLen) ∧ ((∃ n, n ≤ 0 ∧ L.length = n ∧ ∃ ao c, v = .slice ao n c) ∨ ∃ b c, b < w.heap.size ∧ v = .slice (some ⟨b, 0, none⟩) L.length c ∧ ∀ i, i < L.length → w.cell? ⟨b, i, none⟩ = some (.string ⟨(L.getD i []).toArray⟩))

theorem lies_of_owns {w : World} {base : Nat} {v : Value} {L : List (List UInt8)} (h : w.ownsRow base 9 1 v L.length (L.map encStr)) (h1 : L.length ≤ 2199023255552) (h2 : ∀ l ∈ L, l.length ≤ maxLen) : Lies w v L := by
  refine ⟨h1, h2, ?_⟩
  rcases h.2 with ⟨h0, hn⟩ | ⟨g, cap, cur, hv, hbg, hg, hnc, hcm, hcs, htake⟩
  · exact .inl ⟨0, Nat.le_refl _, hn, _, _, h0⟩
  · refine .inr ⟨g, cap, ?_, hv, fun i hi => ?_⟩
    · rcases Nat.lt_or_ge g w.heap.size with hlt | hge
      · exact hlt
      · rw [Array.getElem?_eq_none hge] at hg; cases hg
    · rw [cell_of_row w g i cur 9 (0, 0) hg]
      have h3 : (cur.toList.take (L.length * 1))[i]? = (L.map encStr)[i]? := by rw [htake]
      rw [List.getElem?_take_of_lt (by omega), List.getElem?_map, List.getElem?_eq_getElem hi] at h3
      simp only [Array.getElem?_toList] at h3
      rw [h3]
      simp [encStr, List.getD, hi]

theorem less_of {x y : List UInt8} (h : x ≤ y) (hne : x ≠ y) : Op.bytesLess x y = true := by
  rw [bytesLess_eq]
  simp only [decide_eq_true_eq]
  by_cases hlt : x < y
  · exact hlt
  · exact absurd (List.le_antisymm h (List.not_lt.1 hlt)) hne

theorem Below.drewN {B : Nat} {a w : World} (h : Below B a w) (n : Nat) : Below B a (w.drewN n) := ⟨h.os, h.tape, h.output, h.size, h.block⟩

set_option maxRecDepth 100000 in
set_option maxHeartbeats 1000000 in
theorem risingWithin {w : World} {v : Value} {L : List (List UInt8)} (hL : Lies w v L) (hr : Rising L) (bw n : Nat) (S : List (List UInt8)) (hS : OwnSet w bw n S) (hall : ∀ l ∈ L, l ∈ S) :
    Calls Try.prog 9 #[v, .map (some bw)] w fun e w' => e = .returned (.bool true) ∧ w.grownBy w' none := by
  obtain ⟨hlen, hmx, hv⟩ := hL
  have key : (L.length ≤ 0 ∧ ∃ ao c, v = .slice ao L.length c) ∨ ∃ b c, b < w.heap.size ∧ v = .slice (some ⟨b, 0, none⟩) L.length c ∧ Hid (∀ i, i < L.length → w.cell? ⟨b, i, none⟩ = some (.string ⟨(L.getD i []).toArray⟩)) := by
    rcases hv with ⟨n, h1, h2, h3⟩ | h
    · exact .inl ⟨by omega, by rw [h2]; exact h3⟩
    · exact .inr h
  have HMX := hd hmx
  have HR := hd hr
  have HALL := hd hall
  have HS := hd hS
  clear hv hmx hr hall hS
  rcases key with ⟨h0, ao, c, rfl⟩ | ⟨b, c, hb, rfl, HC⟩
  all_goals
    go_enter Try.func9, Try.ntmps9
    go_wp2
    go_loopw [5] (fun i wr => ∃ k : Nat, k ≤ L.length ∧ i = .int .i64 k ∧ Below w.heap.size w wr) (fun i _ => L.length - (intOf i).toNat)
    case atStart => exact ⟨0, Nat.zero_le _, rfl, Below.refl _ _⟩
    case round =>
      obtain ⟨k, hk, rfl, hbel⟩ := hrel
      by_cases hlt : k < L.length
      · try (exfalso; omega)
        all_goals
          have hc := (hbel.cell (p := ⟨b, k, none⟩) hb).trans (HC.out k hlt)
          have hm : L.getD k [] ∈ L := by simp [List.getD, hlt]
          have hlk := (HS.out.of_block (hbel.block _ HS.out.lt)).look ⟨(L.getD k []).toArray⟩ (by simpa [ByteArray.size] using HMX.out _ hm)
          rw [show decide ((⟨(L.getD k []).toArray⟩ : ByteArray).data.toList ∈ S) = true by simpa using HALL.out _ hm] at hlk
          by_cases hk0 : k ≤ 0
          · generalize L.getD k [] = s at hc hlk
            have d0 : decide (0 < k) = false := by simp; omega
            go_wp2
            go_quiet (fail)
            go_wp2
            go_roundw
            case rel => exact ⟨k + 1, by omega, by go_num, Below.drewN hbel _⟩
            case measure => simp [intOf]; omega
          · obtain ⟨j, hj⟩ : ∃ j, k = j + 1 := ⟨k - 1, by omega⟩
            have hc1 := (hbel.cell (p := ⟨b, j, none⟩) hb).trans (HC.out j (by omega))
            have hless : Op.bytesLess (L.getD j []) (L.getD k []) = true := by
              have hj1 : j < L.length := by omega
              have h := HR.out j k hj1 hlt (by omega)
              simp only [List.getD, List.getElem?_eq_getElem hj1, List.getElem?_eq_getElem hlt, Option.getD_some]
              exact less_of h.1 h.2
            generalize L.getD k [] = s at hc hlk hless hm
            generalize L.getD j [] = s1 at hc1 hless
            have hsub : (k : Int) - 1 = (j : Int) := by omega
            have d0 : decide (0 < k) = true := by simp; omega
            have hj1 : j < L.length := by omega
            have HJ := hd hj
            clear hj
            go_wp2
            go_quiet (fail)
            go_wp2
            go_roundw
            case rel => exact ⟨k + 1, by omega, by go_num, Below.drewN hbel _⟩
            case measure => simp [intOf]; omega
      · go_wp2
        go_ret
        exact ⟨rfl, below_grown hbel⟩
end Go.Proofs.Qxb6618872a
