/-
  zzDecUvarint, zzDecVarint, zzDecInt, zzDecOptInt.
-/
import Derived.Test.Qxb6618929aDec1
namespace Go.Proofs.Qxb6618929a
open Go Go.RowKit

/-- Where the decoder of a uvarint stands behind i bytes. -/
structure Mid (n i acc y : Nat) (pre : List UInt8) : Prop where
  split : Lib.uvarint n = pre ++ Lib.uvarint y
  len : pre.length = i
  sum : n = acc + y * 2 ^ (7 * i)
  low : acc < 2 ^ (7 * i)
  some : 0 < i → 0 < y
theorem Mid.start (n : Nat) : Mid n 0 0 n [] := ⟨rfl, rfl, by simp, by simp, fun h => by omega⟩
theorem Mid.nine {n i acc y : Nat} {pre : List UInt8} (h : Mid n i acc y pre) (hn : n < 18446744073709551616) : i ≤ 9 ∧ (i = 9 → y ≤ 1) ∧ (128 ≤ y → i ≤ 8) := by
  have hs := h.sum
  have key : ∀ j k : Nat, j ≤ i → k ≤ y → k * 2 ^ (7 * j) < 18446744073709551616 := fun j k hj hk => by
    have h1 : k * 2 ^ (7 * j) ≤ y * 2 ^ (7 * i) := Nat.mul_le_mul hk (Nat.pow_le_pow_right (by omega) (by omega))
    omega
  refine ⟨?_, fun e => ?_, fun hy => ?_⟩
  · rcases Nat.lt_or_ge 9 i with h9 | h9
    · have := key 10 1 (by omega) (h.some (by omega))
      have e : (1 : Nat) * 2 ^ (7 * 10) = 1180591620717411303424 := by decide
      omega
    · exact h9
  · subst e
    rcases Nat.lt_or_ge 1 y with h1 | h1
    · have := key 9 2 (Nat.le_refl _) h1
      have e : (2 : Nat) * 2 ^ (7 * 9) = 18446744073709551616 := by decide
      omega
    · exact h1
  · rcases Nat.lt_or_ge 8 i with h9 | h9
    · have := key 9 128 (by omega) hy
      have e : (128 : Nat) * 2 ^ (7 * 9) = 1180591620717411303424 := by decide
      omega
    · exact h9
theorem Mid.next {n i acc y : Nat} {pre : List UInt8} (h : Mid n i acc y pre) (hy : 128 ≤ y) : Mid n (i + 1) (acc + y % 128 * 2 ^ (7 * i)) (y / 128) (pre ++ [(y % 128 + 128).toUInt8]) := by
  have hdm := Nat.div_add_mod y 128
  have hp := pow_step i
  refine ⟨by rw [h.split, Lib.uvarint_big hy]; simp, by simp [h.len], ?_, ?_, fun _ => by omega⟩
  · have e : y * 2 ^ (7 * i) = 128 * (y / 128) * 2 ^ (7 * i) + y % 128 * 2 ^ (7 * i) := by rw [← Nat.add_mul, hdm]
    have e2 : y / 128 * 2 ^ (7 * (i + 1)) = 128 * (y / 128) * 2 ^ (7 * i) := by rw [hp, ← Nat.mul_assoc, Nat.mul_comm (y / 128) 128]
    rw [h.sum, e, e2]
    omega
  · have h1 := h.low
    have h2 : y % 128 * 2 ^ (7 * i) ≤ 127 * 2 ^ (7 * i) := Nat.mul_le_mul_right _ (by omega)
    rw [hp]
    omega

theorem or_step (x acc i : Nat) (hx : x < 256) (hacc : acc < 2 ^ (7 * i)) (hs : acc + x % 128 * 2 ^ (7 * i) < 18446744073709551616) :
    bits .or .u64 (acc : Int) (IntKind.u64.wrap (IntKind.u64.wrap (bits .and .u8 (x : Int) 127) * 2 ^ (7 * i))) = ((acc + x % 128 * 2 ^ (7 * i) : Nat) : Int) := by
  have e2 : ((2 ^ (7 * i) : Nat) : Int) = (2 : Int) ^ (7 * i) := Int.natCast_pow 2 (7 * i)
  have e3 : (x : Int) % 128 = ((x % 128 : Nat) : Int) := by omega
  have hw : ∀ m : Nat, m < 18446744073709551616 → IntKind.u64.wrap (m : Int) = (m : Int) := fun m hm => wraps_u64 _ (by omega) (by omega)
  rw [u8_and127 _ (by omega) (by omega), e3, hw _ (by omega), ← e2, ← Int.natCast_mul, hw _ (by omega)]
  rw [bits_join_low .u64 64 (by decide) wraps_u64 (7 * i) (acc : Int) _ (by omega) (by rw [← e2]; omega) (by omega) (by omega) (by rw [← e2, ← Int.natCast_emod, Nat.mul_mod_left]; rfl) (by omega)]
  omega
set_option maxRecDepth 100000 in
set_option maxHeartbeats 4000000 in
theorem d_uvarint (s : Nat) (R : Nat → Prop) (out : List UInt8) (p : Nat) (ts : List (List UInt8)) (bv sv : Value) (n : Nat) (rest : List UInt8) (w : World) (h : Dec w s R out p ts bv sv) (hout : out.length ≤ 140737489403904) (hn : n < 18446744073709551616) (hc : out.drop p = Lib.uvarint n ++ rest) :
    Calls Try.prog 41 #[.pointer (some ⟨s, 0, none⟩)] w fun e w' => e = .returned (.int .u64 n) ∧ DecTo s R w out (p + (Lib.uvarint n).length) ts bv w' := by
  have hlen := Lib.uvarint_pos n
  have hdl : p < out.length := by
    have := congrArg List.length hc
    simp only [List.length_drop, List.length_append] at this
    omega
  obtain ⟨ao, cap, hbv, h2⟩ := h.bytes
  rcases h2 with h2 | ⟨_, b, off, rfl, hRb, _⟩
  · omega
  subst hbv
  obtain ⟨b0, b1, b2, b3, f1, f2⟩ := h.cells
  have HD := hd h
  have HC := hd hc
  clear h hc b2 f2 hlen hdl
  go_enter Try.func41, Try.ntmps41
  go_wp2
  go_loopw [3, 4, 5] (fun vx vi _ wr => ∃ (i acc y : Nat) (pre : List UInt8), vx = .int .u64 acc ∧ vi = .int .i64 i ∧ Hid (Mid n i acc y pre) ∧ Hid ((∃ sv, Dec wr s R out (p + i) ts (.slice (some ⟨b, off, none⟩) out.length cap) sv) ∧ Fr R w wr)) (fun _ vi _ _ => 10 - (intOf vi).toNat)
  case atStart => exact ⟨0, 0, n, [], rfl, rfl, Mid.start n, ⟨_, HD.out⟩, Fr.refl _ _⟩
  case round =>
    obtain ⟨i, acc, y, pre, rfl, rfl, HM, HR⟩ := hrel
    clear b0 b1 b3 f1
    obtain ⟨⟨sv', hD⟩, hF⟩ := HR.out
    obtain ⟨b0, b1, b2, b3, f1, f2⟩ := hD.cells
    obtain ⟨m1, m2, m3⟩ := HM.out.nine hn
    have hdrop : out.drop (p + i) = Lib.uvarint y ++ rest := by
      rw [← List.drop_drop, HC.out, HM.out.split, List.append_assoc, ← HM.out.len, List.drop_left]
    have hrow := hD.bytes
    obtain ⟨ao', cap', hbv', h2⟩ := hrow
    obtain ⟨e1, e2⟩ : some ⟨b, off, none⟩ = ao' ∧ cap = cap' := by injection hbv' with q1 q2 q3; exact ⟨q1, q3⟩
    subst e1 e2
    by_cases hy : y < 128
    · rw [Lib.uvarint_small hy] at hdrop
      obtain ⟨hp, hg, _⟩ := drop_cons hdrop
      have hx : wr.cell? ⟨b, off + (p + i), none⟩ = some (.int .u8 (y : Int)) := by
        rcases h2 with h2 | ⟨_, b', off', q1, _, h5⟩
        · omega
        · injection q1 with q1
          injection q1 with q1 q2
          subst q1 q2
          rw [h5.out (p + i) hp, hg, Lib.toUInt8_toNat (by omega)]
      have d1 : decide (out.length ≤ p + i) = false := by simp; omega
      have HDD := hd hD
      clear h2 hdrop hg hD hF hbv' b2 f2
      have HM1 := hd (And.intro m1 (And.intro m2 HM.out.some))
      have d2 : decide ((i : Int) < 10) = true := by simp; omega
      have d3 : decide ((y : Int) < 128) = true := by simp; omega
      have hcase : (((i : Int) == 9) = true ∧ decide ((1 : Int) < y) = false ∧ decide (0 < i) = true ∧ ((y : Int) == 0) = false) ∨ (((i : Int) == 9) = false ∧ decide (0 < i) = true ∧ ((y : Int) == 0) = false) ∨ (((i : Int) == 9) = false ∧ decide (0 < i) = false) := by
        obtain ⟨g1, g2, g3⟩ := HM1.out
        by_cases e9 : i = 9
        · have := g2 e9
          have := g3 (by omega)
          left
          simp
          omega
        · right
          by_cases e0 : 0 < i
          · have := g3 e0
            left
            simp
            omega
          · right
            simp
            omega
      have HY := hd hy
      clear m2 m3 hy
      rcases hcase with ⟨q1, q2, q3, q4⟩ | ⟨q1, q3, q4⟩ | ⟨q1, q3⟩
      all_goals
        go_wp2
        go_quiet (fail)
        go_wp2
        go_quiet (fail)
        go_wp2
      all_goals
        go_ret
        have hs := HM.out.sum
        have hl := HM.out.low
        obtain ⟨g1, g2⟩ := (HDD.out.drewN _).move (p + i + 1)
        have hlen : (Lib.uvarint n).length = i + 1 := by rw [HM.out.split, Lib.uvarint_small (HY.out), List.length_append, HM.out.len]; rfl
        have hym : y % 128 = y := Nat.mod_eq_of_lt HY.out
        have ho := or_step y acc i (by have := HY.out; omega) hl (by rw [hym]; omega)
        rw [hym, ← hs] at ho
        refine ⟨by rw [← ho]; rfl, ?_, (HR.out.2.drewN _).trans g2⟩
        rw [hlen]
        exact ⟨_, g1⟩
    · rw [Lib.uvarint_big (by omega)] at hdrop
      obtain ⟨hp, hg, _⟩ := drop_cons hdrop
      have hx : wr.cell? ⟨b, off + (p + i), none⟩ = some (.int .u8 ((y % 128 + 128 : Nat) : Int)) := by
        rcases h2 with h2 | ⟨_, b', off', q1, _, h5⟩
        · omega
        · injection q1 with q1
          injection q1 with q1 q2
          subst q1 q2
          rw [h5.out (p + i) hp, hg, Lib.toUInt8_toNat (by omega)]
      have d1 : decide (out.length ≤ p + i) = false := by simp; omega
      have HDD := hd hD
      have hi8 := m3 (by omega)
      have HY : Hid (128 ≤ y) := Nat.not_lt.1 hy
      generalize hcv : y % 128 + 128 = cv at hx
      have hcv1 : 128 ≤ cv := by omega
      have hcv2 : cv < 256 := by omega
      have HCV := hd hcv
      have d2 : decide ((i : Int) < 10) = true := by simp; omega
      have d3 : decide ((cv : Int) < 128) = false := by simp; omega
      have q1 : ((i : Int) == 9) = false := by simp; omega
      clear h2 hdrop hg hD hF hbv' b2 f2 m2 m3 hy hcv m1
      go_wp2
      go_quiet (fail)
      go_wp2
      go_quiet (fail)
      go_wp2
      have hs := HM.out.sum
      have hl := HM.out.low
      have hmm : cv % 128 = y % 128 := by rw [← HCV.out]; omega
      have ho := or_step cv acc i hcv2 hl (by
        rw [hmm]
        have : y % 128 * 2 ^ (7 * i) ≤ y * 2 ^ (7 * i) := Nat.mul_le_mul_right _ (Nat.mod_le _ _)
        omega)
      rw [hmm] at ho
      have HO := hd ho
      have HN := hd (HM.out.next HY.out)
      obtain ⟨g1, g2⟩ := (HDD.out.drewN (nq + 0)).move (p + i + 1)
      clear ho hs hl hmm g1 g2
      go_roundw
      case rel => exact ⟨i + 1, _, _, _, by rw [HO.out], by go_num, HN, ⟨_, ((HDD.out.drewN _).move (p + i + 1)).1⟩, (HR.out.2.drewN _).trans ((HDD.out.drewN _).move (p + i + 1)).2⟩
      case measure => simp [intOf]; omega
end Go.Proofs.Qxb6618929a
