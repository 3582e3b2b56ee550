/-
  PLAIN LAWS ON VARINTS (no program): what is encoded is what is decoded; a cut varint decodes to 'too small'.
-/
import Derived.Lib.VarintDec
import Derived.Lib.Zigzag
import Derived.Lib.VarintMem
namespace Go.Proofs.Qxb6618929aDoor
open Go

theorem pow_step (i : Nat) : 2 ^ (7 * (i + 1)) = 128 * 2 ^ (7 * i) := by
  rw [Nat.mul_add, Nat.pow_add, Nat.mul_comm]

theorem from_enc (x : Nat) : ∀ (i acc : Nat) (rest : List UInt8), i ≤ 9 → x * 2 ^ (7 * i) < 18446744073709551616 →
    Lib.uvarintFrom i acc (Lib.uvarint x ++ rest) = (acc + x * 2 ^ (7 * i), (i : Int) + (Lib.uvarint x).length) := by
  induction x using Nat.strongRecOn with
  | _ x ih =>
    intro i acc rest hi hx
    by_cases h : x < 128
    · rw [Lib.uvarint_small h]
      have hb : (x.toUInt8).toNat = x := Lib.toUInt8_toNat (by omega)
      have h9 : ¬ (i = 9 ∧ 1 < x) := by
        rintro ⟨rfl, h1⟩
        have : 2 * 2 ^ (7 * 9) ≤ x * 2 ^ (7 * 9) := Nat.mul_le_mul_right _ h1
        have e : 2 * 2 ^ (7 * 9) = 18446744073709551616 := by decide
        omega
      simp only [List.cons_append, List.nil_append, Lib.uvarintFrom, hb, if_pos h, if_neg h9, if_neg (show ¬ i = 10 by omega), List.length_singleton]
      rfl
    · rw [Lib.uvarint_big (by omega)]
      have hb : ((x % 128 + 128).toUInt8).toNat = x % 128 + 128 := Lib.toUInt8_toNat (by omega)
      have hm : (x % 128 + 128) % 128 = x % 128 := by omega
      have hdm := Nat.div_add_mod x 128
      have hmul : x * 2 ^ (7 * i) = 128 * (x / 128) * 2 ^ (7 * i) + x % 128 * 2 ^ (7 * i) := by rw [← Nat.add_mul, hdm]
      have hstep : x / 128 * 2 ^ (7 * (i + 1)) = 128 * (x / 128) * 2 ^ (7 * i) := by
        rw [pow_step, ← Nat.mul_assoc, Nat.mul_comm (x / 128) 128]
      have hlt : x / 128 * 2 ^ (7 * (i + 1)) < 18446744073709551616 := by rw [hstep]; omega
      have hi8 : i ≤ 8 := by
        rcases Nat.lt_or_ge i 9 with h' | h'
        · omega
        · have e9 : i = 9 := by omega
          subst e9
          have : 128 * 2 ^ (7 * 9) ≤ x * 2 ^ (7 * 9) := Nat.mul_le_mul_right _ (by omega)
          have e : 128 * 2 ^ (7 * 9) = 1180591620717411303424 := by decide
          omega
      simp only [List.cons_append, Lib.uvarintFrom, hb, if_neg (show ¬ i = 10 by omega), if_neg (show ¬ x % 128 + 128 < 128 by omega), hm, List.length_cons]
      rw [ih (x / 128) (by omega) (i + 1) _ rest (by omega) hlt, hstep]
      refine Prod.ext ?_ ?_
      · show acc + x % 128 * 2 ^ (7 * i) + 128 * (x / 128) * 2 ^ (7 * i) = acc + x * 2 ^ (7 * i)
        omega
      · show ((i + 1 : Nat) : Int) + (Lib.uvarint (x / 128)).length = (i : Int) + ((Lib.uvarint (x / 128)).length + 1 : Nat)
        omega

theorem dec_enc (x : Nat) (hx : x < 18446744073709551616) (rest : List UInt8) : Lib.uvarintDec (Lib.uvarint x ++ rest) = (x, ((Lib.uvarint x).length : Int)) := by
  have := from_enc x 0 0 rest (by omega) (by simpa using hx)
  simpa [Lib.uvarintDec] using this

theorem from_cut (x : Nat) : ∀ (i acc k : Nat), k < (Lib.uvarint x).length → i + k ≤ 10 → Lib.uvarintFrom i acc ((Lib.uvarint x).take k) = (0, 0) := by
  induction x using Nat.strongRecOn with
  | _ x ih =>
    intro i acc k hk hi
    cases k with
    | zero => simp [Lib.uvarintFrom]
    | succ k =>
      by_cases h : x < 128
      · rw [Lib.uvarint_small h] at hk
        simp at hk
      · rw [Lib.uvarint_big (by omega)] at hk ⊢
        have hb : ((x % 128 + 128).toUInt8).toNat = x % 128 + 128 := Lib.toUInt8_toNat (by omega)
        simp only [List.length_cons] at hk
        simp only [List.take_succ_cons, Lib.uvarintFrom, hb, if_neg (show ¬ i = 10 by omega), if_neg (show ¬ x % 128 + 128 < 128 by omega)]
        exact ih (x / 128) (by omega) (i + 1) _ k (by omega) (by omega)

theorem zig_back (x : Int) : Lib.unzigzag (Lib.zigzag x) = x := by
  unfold Lib.zigzag Lib.unzigzag
  split <;> split <;> omega

/-- The varint of an int64. -/
def vb (x : Int) : List UInt8 := Lib.uvarint (Lib.zigzag x)
theorem vb_len (x : Int) (h0 : -9223372036854775808 ≤ x) (h1 : x ≤ 9223372036854775807) : 1 ≤ (vb x).length ∧ (vb x).length ≤ 10 :=
  ⟨Lib.uvarint_pos _, Lib.uvarint_length64 (Lib.zigzag_lt h0 h1)⟩

theorem dec_vb (x : Int) (h0 : -9223372036854775808 ≤ x) (h1 : x ≤ 9223372036854775807) (rest : List UInt8) : Lib.varintDec (vb x ++ rest) = (x, ((vb x).length : Int)) := by
  rw [Lib.varintDec, vb, dec_enc _ (Lib.zigzag_lt h0 h1)]
  rw [zig_back]

theorem dec_cut (x : Int) (h0 : -9223372036854775808 ≤ x) (h1 : x ≤ 9223372036854775807) (k : Nat) (hk : k < (vb x).length) : Lib.varintDec ((vb x).take k) = (0, 0) := by
  have hl := vb_len x h0 h1
  have : Lib.uvarintDec ((vb x).take k) = (0, 0) := from_cut _ 0 0 k hk (by omega)
  rw [Lib.varintDec, this]
  rfl

theorem dec_nil : Lib.varintDec [] = (0, 0) := rfl
end Go.Proofs.Qxb6618929aDoor
