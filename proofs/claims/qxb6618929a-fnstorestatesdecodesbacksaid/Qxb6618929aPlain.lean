/-
  PLAIN LAWS ON VARINTS (no program): what is encoded is what is decoded; a cut varint decodes to 'too small'.
-/
import Derived.Lib.VarintDec
import Derived.Lib.Zigzag
import Derived.Lib.VarintMem
namespace Go.Proofs.Qxb6618929a
open Go

theorem pow_step (i : Nat) : 2 ^ (7 * (i + 1)) = 128 * 2 ^ (7 * i) := by
  rw [Nat.mul_add, Nat.pow_add, Nat.mul_comm]

theorem from_enc (x : Nat) : ∀ (i acc : Nat) (rest : List UInt8), i ≤ 9 → x * 2 ^ (7 * i) < 18446744073709551616 →
    Lib.uvarintFrom i acc (Lib.uvarint x ++ rest) = (acc + x * 2 ^ (7 * i), (i : Int) + (Lib.uvarint x).length) := by
  induction x using Nat.strongRecOn with
  | _ x ih =>
    intro i acc rest hi hx
    by_cases h : x < 128
    · rw [Lib.uvarint_small h]
      have hb : (x.toUInt8).toNat = x := Lib.toUInt8_toNat (by omega)
      have h9 : ¬ (i = 9 ∧ 1 < x) := by
        rintro ⟨rfl, h1⟩
        have : 2 * 2 ^ (7 * 9) ≤ x * 2 ^ (7 * 9) := Nat.mul_le_mul_right _ h1
        have e : 2 * 2 ^ (7 * 9) = 18446744073709551616 := by decide
        omega
      simp only [List.cons_append, List.nil_append, Lib.uvarintFrom, hb, if_pos h, if_neg h9, if_neg (show ¬ i = 10 by omega), List.length_singleton]
      rfl
    · rw [Lib.uvarint_big (by omega)]
      have hb : ((x % 128 + 128).toUInt8).toNat = x % 128 + 128 := Lib.toUInt8_toNat (by omega)
      have hm : (x % 128 + 128) % 128 = x % 128 := by omega
      have hdm := Nat.div_add_mod x 128
      have hmul : x * 2 ^ (7 * i) = 128 * (x / 128) * 2 ^ (7 * i) + x % 128 * 2 ^ (7 * i) := by rw [← Nat.add_mul, hdm]
      have hstep : x / 128 * 2 ^ (7 * (i + 1)) = 128 * (x / 128) * 2 ^ (7 * i) := by
        rw [pow_step, ← Nat.mul_assoc, Nat.mul_comm (x / 128) 128]
      have hlt : x / 128 * 2 ^ (7 * (i + 1)) < 18446744073709551616 := by rw [hstep]; omega
      have hi8 : i ≤ 8 := by
        rcases Nat.lt_or_ge i 9 with h' | h'
        · omega
        · have e9 : i = 9 := by omega
          subst e9
          have : 128 * 2 ^ (7 * 9) ≤ x * 2 ^ (7 * 9) := Nat.mul_le_mul_right _ (by omega)
          have e : 128 * 2 ^ (7 * 9) = 1180591620717411303424 := by decide
          omega
      simp only [List.cons_append, Lib.uvarintFrom, hb, if_neg (show ¬ i = 10 by omega), if_neg (show ¬ x % 128 + 128 < 128 by omega), hm, List.length_cons]
      rw [ih (x / 128) (by omega) (i + 1) _ rest (by omega) hlt, hstep]
      refine Prod.ext ?_ ?_
      · show acc + x % 128 * 2 ^ (7 * i) + 128 * (x / 128) * 2 ^ (7 * i) = acc + x * 2 ^ (7 * i)
        omega
      · show ((i + 1 : Nat) : Int) + (Lib.uvarint (x / 128)).length = (i : Int) + ((Lib.uvarint (x / 128)).length + 1 : Nat)
        omega

theorem dec_enc (x : Nat) (hx : x < 18446744073709551616) (rest : List UInt8) : Lib.uvarintDec (Lib.uvarint x ++ rest) = (x, ((Lib.uvarint x).length : Int)) := by
  have := from_enc x 0 0 rest (by omega) (by simpa using hx)
  simpa [Lib.uvarintDec] using this

theorem from_cut (x : Nat) : ∀ (i acc k : Nat), k < (Lib.uvarint x).length → i + k ≤ 10 → Lib.uvarintFrom i acc ((Lib.uvarint x).take k) = (0, 0) := by
  induction x using Nat.strongRecOn with
  | _ x ih =>
    intro i acc k hk hi
    cases k with
    | zero => simp [Lib.uvarintFrom]
    | succ k =>
      by_cases h : x < 128
      · rw [Lib.uvarint_small h] at hk
        simp at hk
      · rw [Lib.uvarint_big (by omega)] at hk ⊢
        have hb : ((x % 128 + 128).toUInt8).toNat = x % 128 + 128 := Lib.toUInt8_toNat (by omega)
        simp only [List.length_cons] at hk
        simp only [List.take_succ_cons, Lib.uvarintFrom, hb, if_neg (show ¬ i = 10 by omega), if_neg (show ¬ x % 128 + 128 < 128 by omega)]
        exact ih (x / 128) (by omega) (i + 1) _ k (by omega) (by omega)

theorem zig_back (x : Int) : Lib.unzigzag (Lib.zigzag x) = x := by
  unfold Lib.zigzag Lib.unzigzag
  split <;> split <;> omega

/-- The varint of an int64. -/
def vb (x : Int) : List UInt8 := Lib.uvarint (Lib.zigzag x)
theorem vb_len (x : Int) (h0 : -9223372036854775808 ≤ x) (h1 : x ≤ 9223372036854775807) : 1 ≤ (vb x).length ∧ (vb x).length ≤ 10 :=
  ⟨Lib.uvarint_pos _, Lib.uvarint_length64 (Lib.zigzag_lt h0 h1)⟩

theorem dec_vb (x : Int) (h0 : -9223372036854775808 ≤ x) (h1 : x ≤ 9223372036854775807) (rest : List UInt8) : Lib.varintDec (vb x ++ rest) = (x, ((vb x).length : Int)) := by
  rw [Lib.varintDec, vb, dec_enc _ (Lib.zigzag_lt h0 h1)]
  rw [zig_back]

theorem dec_cut (x : Int) (h0 : -9223372036854775808 ≤ x) (h1 : x ≤ 9223372036854775807) (k : Nat) (hk : k < (vb x).length) : Lib.varintDec ((vb x).take k) = (0, 0) := by
  have hl := vb_len x h0 h1
  have : Lib.uvarintDec ((vb x).take k) = (0, 0) := from_cut _ 0 0 k hk (by omega)
  rw [Lib.varintDec, this]
  rfl

theorem dec_nil : Lib.varintDec [] = (0, 0) := rfl
/-! ### The stored form, plainly -/
structure SeatD where
  seat : Int
  name : List UInt8
  stack : Int
  bet : Int
  folded : Bool
  allIn : Bool
  cards : Option (List UInt8)
  conn : Bool

structure StateD where
  type : List UInt8
  seq : Int
  kind : List UInt8
  eseat : Option Int
  action : List UInt8
  amount : Int
  street : List UInt8
  eboard : Option (List UInt8)
  place : Int
  hand : Int
  sb : Int
  bb : Int
  ante : Int
  tstreet : List UInt8
  button : Int
  board : Option (List UInt8)
  pot : Int
  toAct : Option Int
  seats : Option (List SeatD)
  resync : Bool

/-- What the storer has: bytes and strings. -/
abbrev St := List UInt8 × List (List UInt8)

def bitB (b : Bool) (f : UInt8) : UInt8 := if b then f else 0
def putV (x : Int) (s : St) : St := (s.1 ++ vb x, s.2)
def putU (n : Nat) (s : St) : St := (s.1 ++ Lib.uvarint n, s.2)
def putB (c : UInt8) (s : St) : St := (s.1 ++ [c], s.2)
def putStr (t : List UInt8) (s : St) : St :=
  match s.2.findIdx? (· == t) with
  | some i => putU i s
  | none => (s.1 ++ Lib.uvarint s.2.length ++ Lib.uvarint t.length ++ t, s.2 ++ [t])
def putLen (n : Option Nat) (s : St) : St := match n with
  | none => putB 0 s
  | some n => putU (n + 1) s
def putOpt (o : Option Int) (s : St) : St := match o with
  | none => putB 0 s
  | some x => putV x (putB 1 s)
def putCards (o : Option (List UInt8)) (s : St) : St := match o with
  | none => putLen none s
  | some cs => ((putLen (some cs.length) s).1 ++ cs, s.2)
def sameSeatD (a b : SeatD) : Bool := a.seat == b.seat && a.name == b.name && a.stack == b.stack && a.bet == b.bet && a.folded == b.folded && a.allIn == b.allIn && a.conn == b.conn && a.cards == b.cards
def putSeat (d : SeatD) (before : Option SeatD) (s : St) : St :=
  if before.any (sameSeatD d) then putB 0 s
  else putCards d.cards (putV d.bet (putV d.stack (putStr d.name (putV d.seat (putB (2 ||| bitB d.folded 4 ||| bitB d.allIn 8 ||| bitB d.conn 16) s)))))
def putSeatsFrom (before : List SeatD) : Nat → List SeatD → St → St
  | _, [], s => s
  | i, d :: ds, s => putSeatsFrom before (i + 1) ds (putSeat d before[i]? s)
def putSeats (o : Option (List SeatD)) (before : List SeatD) (s : St) : St := match o with
  | none => putLen none s
  | some ds => putSeatsFrom before 0 ds (putLen (some ds.length) s)
def putState (d : StateD) (before : List SeatD) (s : St) : St :=
  putB (bitB d.resync 1) (putSeats d.seats before (putOpt d.toAct (putV d.pot (putCards d.board (putV d.button (putStr d.tstreet (putV d.ante (putV d.bb (putV d.sb (putV d.hand
    (putV d.place (putCards d.eboard (putStr d.street (putV d.amount (putStr d.action (putOpt d.eseat (putStr d.kind (putV d.seq (putStr d.type s)))))))))))))))))))
def putStates : List StateD → List SeatD → St → St
  | [], _, s => s
  | d :: ds, before, s => putStates ds (d.seats.getD []) (putState d before s)

/-- It only appends bytes: what it appends hangs on the strings alone; at least k of them. -/
def Apps (k : Nat) (f : St → St) : Prop := ∀ ts, ∃ c ts', (∀ b, f (b, ts) = (b ++ c, ts')) ∧ k ≤ c.length

theorem Apps.comp {k j : Nat} {f g : St → St} (hf : Apps k f) (hg : Apps j g) : Apps (k + j) (fun s => g (f s)) := fun ts => by
  obtain ⟨c, t1, h1, h2⟩ := hf ts
  obtain ⟨c', t2, h3, h4⟩ := hg t1
  exact ⟨c ++ c', t2, fun b => by simp only [h1 b, h3, List.append_assoc], by simp; omega⟩

theorem Apps.less {k j : Nat} {f : St → St} (hf : Apps k f) (h : j ≤ k) : Apps j f := fun ts => by
  obtain ⟨c, t1, h1, h2⟩ := hf ts
  exact ⟨c, t1, h1, Nat.le_trans h h2⟩

theorem uvarint_pos (n : Nat) : 1 ≤ (Lib.uvarint n).length := by
  rw [Lib.uvarint]
  split <;> simp
theorem apps_U (n : Nat) : Apps 1 (putU n) := fun _ => ⟨_, _, fun _ => rfl, uvarint_pos n⟩
theorem apps_V (x : Int) : Apps 1 (putV x) := fun _ => ⟨_, _, fun _ => rfl, uvarint_pos _⟩
theorem apps_B (c : UInt8) : Apps 1 (putB c) := fun _ => ⟨_, _, fun _ => rfl, Nat.le_refl _⟩
theorem apps_Str (t : List UInt8) : Apps 1 (putStr t) := fun ts => by
  unfold putStr
  cases h : ts.findIdx? (· == t) with
  | some i => exact ⟨_, _, fun _ => by simp only [h]; rfl, uvarint_pos i⟩
  | none => exact ⟨Lib.uvarint ts.length ++ Lib.uvarint t.length ++ t, ts ++ [t], fun b => by simp only [h, List.append_assoc], by have := uvarint_pos ts.length; simp; omega⟩
theorem apps_Len (n : Option Nat) : Apps 1 (putLen n) := by
  cases n with
  | none => exact apps_B 0
  | some n => exact apps_U (n + 1)
theorem apps_Opt (o : Option Int) : Apps 1 (putOpt o) := by
  cases o with
  | none => exact apps_B 0
  | some x => exact ((apps_B 1).comp (apps_V x)).less (by omega)
theorem apps_Cards (o : Option (List UInt8)) : Apps 1 (putCards o) := by
  cases o with
  | none => exact apps_Len none
  | some cs => exact fun ts => ⟨Lib.uvarint (cs.length + 1) ++ cs, ts, fun b => by simp only [putCards, putLen, putU, List.append_assoc], by have := uvarint_pos (cs.length + 1); simp; omega⟩
theorem apps_Seat (d : SeatD) (o : Option SeatD) : Apps 1 (putSeat d o) := by
  by_cases h : o.any (sameSeatD d) = true
  · have e : putSeat d o = putB 0 := by funext s; simp [putSeat, h]
    rw [e]; exact apps_B 0
  · have e : putSeat d o = fun s => putCards d.cards (putV d.bet (putV d.stack (putStr d.name (putV d.seat (putB (2 ||| bitB d.folded 4 ||| bitB d.allIn 8 ||| bitB d.conn 16) s))))) := by funext s; simp [putSeat, h]
    rw [e]
    exact ((((((apps_B _).comp (apps_V _)).comp (apps_Str _)).comp (apps_V _)).comp (apps_V _)).comp (apps_Cards _)).less (by omega)
theorem apps_SeatsFrom (before : List SeatD) : ∀ (i : Nat) (ds : List SeatD), Apps ds.length (putSeatsFrom before i ds)
  | _, [] => fun ts => ⟨[], ts, fun b => by simp [putSeatsFrom], Nat.le_refl _⟩
  | i, d :: ds => ((apps_Seat d before[i]?).comp (apps_SeatsFrom before (i + 1) ds)).less (by simp; omega)
theorem apps_Seats (o : Option (List SeatD)) (before : List SeatD) : Apps (1 + (o.getD []).length) (putSeats o before) := by
  cases o with
  | none => exact apps_Len none
  | some ds => exact (apps_Len (some ds.length)).comp (apps_SeatsFrom before 0 ds)
theorem apps_State (d : StateD) (before : List SeatD) : Apps (20 + (d.seats.getD []).length) (putState d before) :=
  (((((((((((((((((((apps_Str d.type).comp (apps_V d.seq)).comp (apps_Str d.kind)).comp (apps_Opt d.eseat)).comp (apps_Str d.action)).comp (apps_V d.amount)).comp (apps_Str d.street)).comp (apps_Cards d.eboard)).comp (apps_V d.place)).comp (apps_V d.hand)).comp (apps_V d.sb)).comp (apps_V d.bb)).comp (apps_V d.ante)).comp (apps_Str d.tstreet)).comp (apps_V d.button)).comp (apps_Cards d.board)).comp (apps_V d.pot)).comp (apps_Opt d.toAct)).comp (apps_Seats d.seats before)).comp (apps_B (bitB d.resync 1)) |>.less (by omega)
/-- How many bytes the states are at least. -/
def least (ds : List StateD) : Nat := (ds.map fun d => 20 + (d.seats.getD []).length).sum
theorem apps_States : ∀ (ds : List StateD) (before : List SeatD), Apps (least ds) (putStates ds before)
  | [], _ => fun ts => ⟨[], ts, fun b => by simp [putStates], Nat.le_refl _⟩
  | d :: ds, before => ((apps_State d before).comp (apps_States ds (d.seats.getD []))).less (by simp [least])

/-- The bytes that the states are stored as. -/
def stored (ds : List StateD) : List UInt8 := (putStates ds [] ([], [])).1
theorem stored_after (b : List UInt8) (ds : List StateD) : (putStates ds [] (b, [])).1 = b ++ stored ds := by
  obtain ⟨c, t, h1, _⟩ := apps_States ds [] []
  simp only [stored, h1 b, h1 [], List.nil_append]
theorem stored_least (ds : List StateD) : least ds ≤ (stored ds).length := by
  obtain ⟨c, t, h1, h2⟩ := apps_States ds [] []
  simpa only [stored, h1 [], List.nil_append] using h2
theorem putStates_append : ∀ (ds es : List StateD) (before : List SeatD) (s : St), ∃ bf, putStates (ds ++ es) before s = putStates es bf (putStates ds before s)
  | [], _, before, _ => ⟨before, rfl⟩
  | d :: ds, es, before, s => putStates_append ds es (d.seats.getD []) (putState d before s)
theorem stored_prefix (ds : List StateD) (k : Nat) : ∃ c, stored ds = stored (ds.take k) ++ c := by
  obtain ⟨bf, h⟩ := putStates_append (ds.take k) (ds.drop k) [] ([], [])
  rw [List.take_append_drop] at h
  obtain ⟨c, t, h1, _⟩ := apps_States (ds.drop k) bf (putStates (ds.take k) [] ([], [])).2
  refine ⟨c, ?_⟩
  unfold stored
  rw [h, h1]
end Go.Proofs.Qxb6618929a
