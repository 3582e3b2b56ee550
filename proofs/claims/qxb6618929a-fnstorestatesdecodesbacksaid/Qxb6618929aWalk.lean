/-
  walkState: the fields of a state, one behind the other.
-/
import Derived.Test.Qxb6618929aSeats
namespace Go.Proofs.Qxb6618929a
open Go Go.RowKit

structure StateOk (d : StateD) : Prop where
  type : d.type.length ≤ 1048577
  seq : Range d.seq
  kind : d.kind.length ≤ 1048577
  eseat : ∀ x, d.eseat = some x → Range x
  action : d.action.length ≤ 1048577
  amount : Range d.amount
  street : d.street.length ≤ 1048577
  eboard : CardsOk d.eboard
  place : Range d.place
  hand : Range d.hand
  sb : Range d.sb
  bb : Range d.bb
  ante : Range d.ante
  tstreet : d.tstreet.length ≤ 1048577
  button : Range d.button
  board : CardsOk d.board
  pot : Range d.pot
  toAct : ∀ x, d.toAct = some x → Range x
  seats : SeatsOk d.seats

/-- A state in block g: her cells. -/
structure StateAt (w : World) (R : Nat → Prop) (g : Nat) (d : StateD) (vES vEB vT vB vTA vS : Value) : Prop where
  inR : R g
  c0 : w.cell? ⟨g, 0, none⟩ = some (encS d.type)
  c1 : w.cell? ⟨g, 1, none⟩ = some (.int .i64 d.seq)
  c2 : w.cell? ⟨g, 2, none⟩ = some (encS d.kind)
  c3 : w.cell? ⟨g, 3, none⟩ = some vES
  c4 : w.cell? ⟨g, 4, none⟩ = some (encS d.action)
  c5 : w.cell? ⟨g, 5, none⟩ = some (.int .i64 d.amount)
  c6 : w.cell? ⟨g, 6, none⟩ = some (encS d.street)
  c7 : w.cell? ⟨g, 7, none⟩ = some vEB
  c8 : w.cell? ⟨g, 8, none⟩ = some (.int .i64 d.place)
  c10 : w.cell? ⟨g, 10, none⟩ = some (.int .i64 d.hand)
  c11 : w.cell? ⟨g, 11, none⟩ = some (.int .i64 d.sb)
  c12 : w.cell? ⟨g, 12, none⟩ = some (.int .i64 d.bb)
  c13 : w.cell? ⟨g, 13, none⟩ = some (.int .i64 d.ante)
  c14 : w.cell? ⟨g, 14, none⟩ = some (encS d.tstreet)
  c15 : w.cell? ⟨g, 15, none⟩ = some (.int .i64 d.button)
  c16 : w.cell? ⟨g, 16, none⟩ = some vB
  c17 : w.cell? ⟨g, 17, none⟩ = some (.int .i64 d.pot)
  c18 : w.cell? ⟨g, 18, none⟩ = some vTA
  c19 : w.cell? ⟨g, 19, none⟩ = some vS
  c20 : w.cell? ⟨g, 20, none⟩ = some (.bool d.resync)
  c9 : w.cell? ⟨g, 9, none⟩ = some vT
  eseat : OptAt w R vES d.eseat
  eboard : CardsAt w R vEB d.eboard
  board : CardsAt w R vB d.board
  toAct : OptAt w R vTA d.toAct
  seats : SeatsAt w R vS d.seats
theorem StateAt.kept {w w' : World} {R : Nat → Prop} {g : Nat} {d : StateD} {vES vEB vT vB vTA vS : Value} (h : StateAt w R g d vES vEB vT vB vTA vS) (hs : Same R w w') : StateAt w' R g d vES vEB vT vB vTA vS :=
  have hc : ∀ (k : Nat) (v : Value), w.cell? ⟨g, k, none⟩ = some v → w'.cell? ⟨g, k, none⟩ = some v := fun k _ e => (hs.cell (p := ⟨g, k, none⟩) h.inR).trans e
  ⟨h.inR, hc _ _ h.c0, hc _ _ h.c1, hc _ _ h.c2, hc _ _ h.c3, hc _ _ h.c4, hc _ _ h.c5, hc _ _ h.c6, hc _ _ h.c7, hc _ _ h.c8, hc _ _ h.c10, hc _ _ h.c11, hc _ _ h.c12, hc _ _ h.c13, hc _ _ h.c14, hc _ _ h.c15, hc _ _ h.c16, hc _ _ h.c17, hc _ _ h.c18, hc _ _ h.c19, hc _ _ h.c20, hc _ _ h.c9, h.eseat.kept hs, h.eboard.kept hs, h.board.kept hs, h.toAct.kept hs, h.seats.kept hs⟩
theorem StateAt.more {w : World} {R R' : Nat → Prop} {g : Nat} {d : StateD} {vES vEB vT vB vTA vS : Value} (h : StateAt w R g d vES vEB vT vB vTA vS) (hr : ∀ k, R k → R' k) : StateAt w R' g d vES vEB vT vB vTA vS :=
  ⟨hr _ h.inR, h.c0, h.c1, h.c2, h.c3, h.c4, h.c5, h.c6, h.c7, h.c8, h.c10, h.c11, h.c12, h.c13, h.c14, h.c15, h.c16, h.c17, h.c18, h.c19, h.c20, h.c9, h.eseat.more hr, h.eboard.more hr, h.board.more hr, h.toAct.more hr, h.seats.more hr⟩

/-! ### The stages of putState -/
def pst0 (_ : StateD) (_ : List SeatD) (st : St) : St := st
def pst1 (d : StateD) (bf : List SeatD) (st : St) : St := putStr d.type (pst0 d bf st)
def pst2 (d : StateD) (bf : List SeatD) (st : St) : St := putV d.seq (pst1 d bf st)
def pst3 (d : StateD) (bf : List SeatD) (st : St) : St := putStr d.kind (pst2 d bf st)
def pst4 (d : StateD) (bf : List SeatD) (st : St) : St := putOpt d.eseat (pst3 d bf st)
def pst5 (d : StateD) (bf : List SeatD) (st : St) : St := putStr d.action (pst4 d bf st)
def pst6 (d : StateD) (bf : List SeatD) (st : St) : St := putV d.amount (pst5 d bf st)
def pst7 (d : StateD) (bf : List SeatD) (st : St) : St := putStr d.street (pst6 d bf st)
def pst8 (d : StateD) (bf : List SeatD) (st : St) : St := putCards d.eboard (pst7 d bf st)
def pst9 (d : StateD) (bf : List SeatD) (st : St) : St := putV d.place (pst8 d bf st)
def pst10 (d : StateD) (bf : List SeatD) (st : St) : St := putV d.hand (pst9 d bf st)
def pst11 (d : StateD) (bf : List SeatD) (st : St) : St := putV d.sb (pst10 d bf st)
def pst12 (d : StateD) (bf : List SeatD) (st : St) : St := putV d.bb (pst11 d bf st)
def pst13 (d : StateD) (bf : List SeatD) (st : St) : St := putV d.ante (pst12 d bf st)
def pst14 (d : StateD) (bf : List SeatD) (st : St) : St := putStr d.tstreet (pst13 d bf st)
def pst15 (d : StateD) (bf : List SeatD) (st : St) : St := putV d.button (pst14 d bf st)
def pst16 (d : StateD) (bf : List SeatD) (st : St) : St := putCards d.board (pst15 d bf st)
def pst17 (d : StateD) (bf : List SeatD) (st : St) : St := putV d.pot (pst16 d bf st)
def pst18 (d : StateD) (bf : List SeatD) (st : St) : St := putOpt d.toAct (pst17 d bf st)
def pst19 (d : StateD) (bf : List SeatD) (st : St) : St := putSeats d.seats bf (pst18 d bf st)
def pst20 (d : StateD) (bf : List SeatD) (st : St) : St := putB (bitB d.resync 1) (pst19 d bf st)
theorem pst_all (d : StateD) (bf : List SeatD) (st : St) : pst20 d bf st = putState d bf st := rfl

theorem lenSeats (o : Option (List SeatD)) (bf : List SeatD) (st : St) (h : SeatsOk o) (hn : st.2.length + 10923 ≤ 1073741824) : (putSeats o bf st).1.length ≤ st.1.length + 22940000000 ∧ (putSeats o bf st).2.length ≤ st.2.length + 10923 := by
  have hm := h.many
  cases o with
  | none => simp [putSeats, putLen, putB]
  | some ds =>
    simp only [Option.getD_some] at hm
    have h1 := (putLen_len (some ds.length) st (fun k hk => by have := Option.some.inj hk; omega)).2
    have h2 := lenSeatsFrom bf ds 0 (putLen (some ds.length) st) h.each (by show st.2.length + _ ≤ _; omega)
    have h3 : (putLen (some ds.length) st).2.length = st.2.length := rfl
    simp only [putSeats]
    omega

/-- So many bytes and strings at most. -/
def Upto (st st' : St) (n m : Nat) : Prop := st'.1.length ≤ st.1.length + n ∧ st'.2.length ≤ st.2.length + m
theorem up0 (d : StateD) (bf : List SeatD) (st : St) : Upto st (pst0 d bf st) 0 0 := ⟨Nat.le_refl _, Nat.le_refl _⟩
theorem up1 (d : StateD) (bf : List SeatD) (st : St) (ok : StateOk d) (hn : st.2.length + 11000 ≤ 1073741824) : Upto st (pst1 d bf st) 1048600 1 := by
  have h := up0 d bf st
  unfold Upto at h ⊢
  have hx := ok.type; have h2 := lenStr d.type (pst0 d bf st) (by omega) (by have := ok.type; omega)
  unfold pst1
  omega
theorem up2 (d : StateD) (bf : List SeatD) (st : St) (ok : StateOk d) (hn : st.2.length + 11000 ≤ 1073741824) : Upto st (pst2 d bf st) 1048610 1 := by
  have h := up1 d bf st ok hn
  unfold Upto at h ⊢
  have h2 := lenV d.seq (pst1 d bf st) ok.seq
  unfold pst2
  omega
theorem up3 (d : StateD) (bf : List SeatD) (st : St) (ok : StateOk d) (hn : st.2.length + 11000 ≤ 1073741824) : Upto st (pst3 d bf st) 2097210 2 := by
  have h := up2 d bf st ok hn
  unfold Upto at h ⊢
  have hx := ok.kind; have h2 := lenStr d.kind (pst2 d bf st) (by omega) (by have := ok.kind; omega)
  unfold pst3
  omega
theorem up4 (d : StateD) (bf : List SeatD) (st : St) (ok : StateOk d) (hn : st.2.length + 11000 ≤ 1073741824) : Upto st (pst4 d bf st) 2097230 2 := by
  have h := up3 d bf st ok hn
  unfold Upto at h ⊢
  have h2 := lenOpt d.eseat (pst3 d bf st) ok.eseat
  unfold pst4
  omega
theorem up5 (d : StateD) (bf : List SeatD) (st : St) (ok : StateOk d) (hn : st.2.length + 11000 ≤ 1073741824) : Upto st (pst5 d bf st) 3145830 3 := by
  have h := up4 d bf st ok hn
  unfold Upto at h ⊢
  have hx := ok.action; have h2 := lenStr d.action (pst4 d bf st) (by omega) (by have := ok.action; omega)
  unfold pst5
  omega
theorem up6 (d : StateD) (bf : List SeatD) (st : St) (ok : StateOk d) (hn : st.2.length + 11000 ≤ 1073741824) : Upto st (pst6 d bf st) 3145840 3 := by
  have h := up5 d bf st ok hn
  unfold Upto at h ⊢
  have h2 := lenV d.amount (pst5 d bf st) ok.amount
  unfold pst6
  omega
theorem up7 (d : StateD) (bf : List SeatD) (st : St) (ok : StateOk d) (hn : st.2.length + 11000 ≤ 1073741824) : Upto st (pst7 d bf st) 4194440 4 := by
  have h := up6 d bf st ok hn
  unfold Upto at h ⊢
  have hx := ok.street; have h2 := lenStr d.street (pst6 d bf st) (by omega) (by have := ok.street; omega)
  unfold pst7
  omega
theorem up8 (d : StateD) (bf : List SeatD) (st : St) (ok : StateOk d) (hn : st.2.length + 11000 ≤ 1073741824) : Upto st (pst8 d bf st) 5243030 4 := by
  have h := up7 d bf st ok hn
  unfold Upto at h ⊢
  have hx := ok.eboard; unfold CardsOk at hx; have h2 := lenCards d.eboard (pst7 d bf st) (by have := ok.eboard; unfold CardsOk at this; omega)
  unfold pst8
  omega
theorem up9 (d : StateD) (bf : List SeatD) (st : St) (ok : StateOk d) (hn : st.2.length + 11000 ≤ 1073741824) : Upto st (pst9 d bf st) 5243040 4 := by
  have h := up8 d bf st ok hn
  unfold Upto at h ⊢
  have h2 := lenV d.place (pst8 d bf st) ok.place
  unfold pst9
  omega
theorem up10 (d : StateD) (bf : List SeatD) (st : St) (ok : StateOk d) (hn : st.2.length + 11000 ≤ 1073741824) : Upto st (pst10 d bf st) 5243050 4 := by
  have h := up9 d bf st ok hn
  unfold Upto at h ⊢
  have h2 := lenV d.hand (pst9 d bf st) ok.hand
  unfold pst10
  omega
theorem up11 (d : StateD) (bf : List SeatD) (st : St) (ok : StateOk d) (hn : st.2.length + 11000 ≤ 1073741824) : Upto st (pst11 d bf st) 5243060 4 := by
  have h := up10 d bf st ok hn
  unfold Upto at h ⊢
  have h2 := lenV d.sb (pst10 d bf st) ok.sb
  unfold pst11
  omega
theorem up12 (d : StateD) (bf : List SeatD) (st : St) (ok : StateOk d) (hn : st.2.length + 11000 ≤ 1073741824) : Upto st (pst12 d bf st) 5243070 4 := by
  have h := up11 d bf st ok hn
  unfold Upto at h ⊢
  have h2 := lenV d.bb (pst11 d bf st) ok.bb
  unfold pst12
  omega
theorem up13 (d : StateD) (bf : List SeatD) (st : St) (ok : StateOk d) (hn : st.2.length + 11000 ≤ 1073741824) : Upto st (pst13 d bf st) 5243080 4 := by
  have h := up12 d bf st ok hn
  unfold Upto at h ⊢
  have h2 := lenV d.ante (pst12 d bf st) ok.ante
  unfold pst13
  omega
theorem up14 (d : StateD) (bf : List SeatD) (st : St) (ok : StateOk d) (hn : st.2.length + 11000 ≤ 1073741824) : Upto st (pst14 d bf st) 6291680 5 := by
  have h := up13 d bf st ok hn
  unfold Upto at h ⊢
  have hx := ok.tstreet; have h2 := lenStr d.tstreet (pst13 d bf st) (by omega) (by have := ok.tstreet; omega)
  unfold pst14
  omega
theorem up15 (d : StateD) (bf : List SeatD) (st : St) (ok : StateOk d) (hn : st.2.length + 11000 ≤ 1073741824) : Upto st (pst15 d bf st) 6291690 5 := by
  have h := up14 d bf st ok hn
  unfold Upto at h ⊢
  have h2 := lenV d.button (pst14 d bf st) ok.button
  unfold pst15
  omega
theorem up16 (d : StateD) (bf : List SeatD) (st : St) (ok : StateOk d) (hn : st.2.length + 11000 ≤ 1073741824) : Upto st (pst16 d bf st) 7340280 5 := by
  have h := up15 d bf st ok hn
  unfold Upto at h ⊢
  have hx := ok.board; unfold CardsOk at hx; have h2 := lenCards d.board (pst15 d bf st) (by have := ok.board; unfold CardsOk at this; omega)
  unfold pst16
  omega
theorem up17 (d : StateD) (bf : List SeatD) (st : St) (ok : StateOk d) (hn : st.2.length + 11000 ≤ 1073741824) : Upto st (pst17 d bf st) 7340290 5 := by
  have h := up16 d bf st ok hn
  unfold Upto at h ⊢
  have h2 := lenV d.pot (pst16 d bf st) ok.pot
  unfold pst17
  omega
theorem up18 (d : StateD) (bf : List SeatD) (st : St) (ok : StateOk d) (hn : st.2.length + 11000 ≤ 1073741824) : Upto st (pst18 d bf st) 7340310 5 := by
  have h := up17 d bf st ok hn
  unfold Upto at h ⊢
  have h2 := lenOpt d.toAct (pst17 d bf st) ok.toAct
  unfold pst18
  omega
theorem up19 (d : StateD) (bf : List SeatD) (st : St) (ok : StateOk d) (hn : st.2.length + 11000 ≤ 1073741824) : Upto st (pst19 d bf st) 22947340310 10928 := by
  have h := up18 d bf st ok hn
  unfold Upto at h ⊢
  have h2 := lenSeats d.seats bf (pst18 d bf st) ok.seats (by omega)
  unfold pst19
  omega
theorem up20 (d : StateD) (bf : List SeatD) (st : St) (ok : StateOk d) (hn : st.2.length + 11000 ≤ 1073741824) : Upto st (pst20 d bf st) 22947340311 10928 := by
  have h := up19 d bf st ok hn
  unfold Upto at h ⊢
  have h2 := lenB (bitB d.resync 1) (pst19 d bf st)
  unfold pst20
  omega

/-! ### The names of the walker's methods -/
theorem ahead_string (a : Addr) (w : World) : (nilAhead 254 75 (.pointer (some a)) ("exam" ++ "ple.com" ++ String.singleton (Char.ofNat 47) ++ "flopwire" ++ String.singleton (Char.ofNat 47) ++ "flopwire" ++ String.singleton (Char.ofNat 47) ++ "protocol.string")).run Try.prog w = .ok (some false) w := by kernel_rfl
theorem meth_string (a : Addr) (w : World) : (method 254 75 (.pointer (some a)) ("exam" ++ "ple.com" ++ String.singleton (Char.ofNat 47) ++ "flopwire" ++ String.singleton (Char.ofNat 47) ++ "flopwire" ++ String.singleton (Char.ofNat 47) ++ "protocol.string")).run Try.prog w = .ok (64, .pointer (some a)) w := by kernel_rfl
theorem ahead_int64 (a : Addr) (w : World) : (nilAhead 254 75 (.pointer (some a)) ("exam" ++ "ple.com" ++ String.singleton (Char.ofNat 47) ++ "flopwire" ++ String.singleton (Char.ofNat 47) ++ "flopwire" ++ String.singleton (Char.ofNat 47) ++ "protocol.int64")).run Try.prog w = .ok (some false) w := by kernel_rfl
theorem meth_int64 (a : Addr) (w : World) : (method 254 75 (.pointer (some a)) ("exam" ++ "ple.com" ++ String.singleton (Char.ofNat 47) ++ "flopwire" ++ String.singleton (Char.ofNat 47) ++ "flopwire" ++ String.singleton (Char.ofNat 47) ++ "protocol.int64")).run Try.prog w = .ok (61, .pointer (some a)) w := by kernel_rfl
theorem ahead_optInt (a : Addr) (w : World) : (nilAhead 254 75 (.pointer (some a)) ("exam" ++ "ple.com" ++ String.singleton (Char.ofNat 47) ++ "flopwire" ++ String.singleton (Char.ofNat 47) ++ "flopwire" ++ String.singleton (Char.ofNat 47) ++ "protocol.optInt")).run Try.prog w = .ok (some false) w := by kernel_rfl
theorem meth_optInt (a : Addr) (w : World) : (method 254 75 (.pointer (some a)) ("exam" ++ "ple.com" ++ String.singleton (Char.ofNat 47) ++ "flopwire" ++ String.singleton (Char.ofNat 47) ++ "flopwire" ++ String.singleton (Char.ofNat 47) ++ "protocol.optInt")).run Try.prog w = .ok (62, .pointer (some a)) w := by kernel_rfl
theorem ahead_int (a : Addr) (w : World) : (nilAhead 254 75 (.pointer (some a)) ("exam" ++ "ple.com" ++ String.singleton (Char.ofNat 47) ++ "flopwire" ++ String.singleton (Char.ofNat 47) ++ "flopwire" ++ String.singleton (Char.ofNat 47) ++ "protocol.int")).run Try.prog w = .ok (some false) w := by kernel_rfl
theorem meth_int (a : Addr) (w : World) : (method 254 75 (.pointer (some a)) ("exam" ++ "ple.com" ++ String.singleton (Char.ofNat 47) ++ "flopwire" ++ String.singleton (Char.ofNat 47) ++ "flopwire" ++ String.singleton (Char.ofNat 47) ++ "protocol.int")).run Try.prog w = .ok (60, .pointer (some a)) w := by kernel_rfl
theorem ahead_cards (a : Addr) (w : World) : (nilAhead 254 75 (.pointer (some a)) ("exam" ++ "ple.com" ++ String.singleton (Char.ofNat 47) ++ "flopwire" ++ String.singleton (Char.ofNat 47) ++ "flopwire" ++ String.singleton (Char.ofNat 47) ++ "protocol.cards")).run Try.prog w = .ok (some false) w := by kernel_rfl
theorem meth_cards (a : Addr) (w : World) : (method 254 75 (.pointer (some a)) ("exam" ++ "ple.com" ++ String.singleton (Char.ofNat 47) ++ "flopwire" ++ String.singleton (Char.ofNat 47) ++ "flopwire" ++ String.singleton (Char.ofNat 47) ++ "protocol.cards")).run Try.prog w = .ok (58, .pointer (some a)) w := by kernel_rfl
theorem ahead_seats (a : Addr) (w : World) : (nilAhead 254 75 (.pointer (some a)) ("exam" ++ "ple.com" ++ String.singleton (Char.ofNat 47) ++ "flopwire" ++ String.singleton (Char.ofNat 47) ++ "flopwire" ++ String.singleton (Char.ofNat 47) ++ "protocol.seats")).run Try.prog w = .ok (some false) w := by kernel_rfl
theorem meth_seats (a : Addr) (w : World) : (method 254 75 (.pointer (some a)) ("exam" ++ "ple.com" ++ String.singleton (Char.ofNat 47) ++ "flopwire" ++ String.singleton (Char.ofNat 47) ++ "flopwire" ++ String.singleton (Char.ofNat 47) ++ "protocol.seats")).run Try.prog w = .ok (63, .pointer (some a)) w := by kernel_rfl
theorem ahead_flag (a : Addr) (w : World) : (nilAhead 254 75 (.pointer (some a)) ("exam" ++ "ple.com" ++ String.singleton (Char.ofNat 47) ++ "flopwire" ++ String.singleton (Char.ofNat 47) ++ "flopwire" ++ String.singleton (Char.ofNat 47) ++ "protocol.flag")).run Try.prog w = .ok (some false) w := by kernel_rfl
theorem meth_flag (a : Addr) (w : World) : (method 254 75 (.pointer (some a)) ("exam" ++ "ple.com" ++ String.singleton (Char.ofNat 47) ++ "flopwire" ++ String.singleton (Char.ofNat 47) ++ "flopwire" ++ String.singleton (Char.ofNat 47) ++ "protocol.flag")).run Try.prog w = .ok (59, .pointer (some a)) w := by kernel_rfl
end Go.Proofs.Qxb6618929a
