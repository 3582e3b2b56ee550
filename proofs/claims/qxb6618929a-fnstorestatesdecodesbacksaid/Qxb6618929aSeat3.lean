/-
  storer.seat.
-/
import Derived.Test.Qxb6618929aSeat2
namespace Go.Proofs.Qxb6618929a
open Go Go.RowKit
theorem s_seat (s : Nat) (R : Nat → Prop) (st : St) (bv sv : Value) (b o : Nat) (d : SeatD) (cv : Value) (vb : Value) (ds : List SeatD) (i : Nat) (w : World) (h : Sto w s R st bv sv) (hlim : st.1.length + 2200000 ≤ 140737488355328) (hn : st.2.length + 1 ≤ 1073741824)
    (hd1 : SeatAt w R b o d cv) (hok : SeatOk d) (hbf : BeforeAt w R vb ds) (hl : ds.length ≤ 1048577) (hi : i ≤ 1048577) :
    Calls Try.prog 68 #[.pointer (some ⟨s, 0, none⟩), .pointer (some ⟨b, o, none⟩), vb, .int .i64 i] w fun e w' => Step s R w (putSeat d ds[i]? st) e w' := by
  cases he : ds[i]? with
  | none =>
    exact s_seat_whole s R st bv sv b o d cv vb ds i w h hlim hn hd1 hok hbf hl hi (fun d2 h2 => by rw [he] at h2; cases h2)
  | some d2 =>
    cases hs : sameSeatD d d2 with
    | true =>
      rw [show putSeat d (some d2) st = putB 0 st by simp [putSeat, hs]]
      exact s_seat_same s R st bv sv b o d d2 cv vb ds i w h (by omega) hd1 hok hbf hl he hs
    | false =>
      rw [show putSeat d (some d2) st = putWhole d st by simp [putSeat, hs, putWhole]]
      exact s_seat_whole s R st bv sv b o d cv vb ds i w h hlim hn hd1 hok hbf hl hi (fun d3 h3 => by
        rw [he] at h3
        have e := Option.some.inj h3
        subst e
        exact hs)
end Go.Proofs.Qxb6618929a
