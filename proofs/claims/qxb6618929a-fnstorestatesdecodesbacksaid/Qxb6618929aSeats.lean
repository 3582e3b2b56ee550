/-
  storer.seats.
-/
import Derived.Test.Qxb6618929aSeat3
namespace Go.Proofs.Qxb6618929a
open Go Go.RowKit

attribute [local go_sem] qz73 qs73

/-- A slice of seats, or nil. -/
def SeatsAt (w : World) (R : Nat → Prop) (v : Value) (o : Option (List SeatD)) : Prop := match o with
  | none => v = .slice none 0 0
  | some ds => ∃ (a : Addr) (cap : Nat), v = .slice (some a) ds.length cap ∧ (ds.length ≤ 0 ∨ (0 < ds.length ∧ ∃ b off, a = ⟨b, off, none⟩ ∧ Hid (∀ i, i < ds.length → ∃ d cv, ds[i]? = some d ∧ SeatAt w R b (off + i * 8) d cv)))
theorem SeatsAt.before {w : World} {R : Nat → Prop} {v : Value} {o : Option (List SeatD)} (h : SeatsAt w R v o) : BeforeAt w R v (o.getD []) := by
  cases o with
  | none => exact ⟨none, 0, h, .inl (Nat.le_refl _)⟩
  | some ds =>
    obtain ⟨a, cap, h1, h2⟩ := h
    refine ⟨some a, cap, h1, ?_⟩
    rcases h2 with h2 | ⟨h3, b, off, h4, h5⟩
    · exact .inl h2
    · exact .inr ⟨h3, b, off, by rw [h4], h5⟩
theorem SeatsAt.kept {w w' : World} {R : Nat → Prop} {v : Value} {o : Option (List SeatD)} (h : SeatsAt w R v o) (hs : Same R w w') : SeatsAt w' R v o := by
  cases o with
  | none => exact h
  | some ds =>
    obtain ⟨a, cap, h1, h2⟩ := h
    refine ⟨a, cap, h1, ?_⟩
    rcases h2 with h2 | ⟨h3, b, off, h4, h5⟩
    · exact .inl h2
    · exact .inr ⟨h3, b, off, h4, fun i hi => by
        obtain ⟨d, cv, p1, p2⟩ := h5.out i hi
        exact ⟨d, cv, p1, p2.kept hs⟩⟩
theorem SeatsAt.more {w : World} {R R' : Nat → Prop} {v : Value} {o : Option (List SeatD)} (h : SeatsAt w R v o) (hr : ∀ k, R k → R' k) : SeatsAt w R' v o := by
  cases o with
  | none => exact h
  | some ds =>
    obtain ⟨a, cap, h1, h2⟩ := h
    refine ⟨a, cap, h1, ?_⟩
    rcases h2 with h2 | ⟨h3, b, off, h4, h5⟩
    · exact .inl h2
    · exact .inr ⟨h3, b, off, h4, fun i hi => by
        obtain ⟨d, cv, p1, p2⟩ := h5.out i hi
        exact ⟨d, cv, p1, p2.more hr⟩⟩
theorem BeforeAt.kept {w w' : World} {R : Nat → Prop} {v : Value} {ds : List SeatD} (h : BeforeAt w R v ds) (hs : Same R w w') : BeforeAt w' R v ds := by
  obtain ⟨a, cap, h1, h2⟩ := h
  refine ⟨a, cap, h1, ?_⟩
  rcases h2 with h2 | ⟨h3, b, off, h4, h5⟩
  · exact .inl h2
  · exact .inr ⟨h3, b, off, h4, fun i hi => by
      obtain ⟨d, cv, p1, p2⟩ := h5.out i hi
      exact ⟨d, cv, p1, p2.kept hs⟩⟩

theorem putSeatsFrom_snoc (before : List SeatD) : ∀ (xs : List SeatD) (i : Nat) (d : SeatD) (st : St), putSeatsFrom before i (xs ++ [d]) st = putSeat d before[i + xs.length]? (putSeatsFrom before i xs st)
  | [], i, d, st => by simp [putSeatsFrom]
  | x :: xs, i, d, st => by
    simp only [List.cons_append, putSeatsFrom, putSeatsFrom_snoc before xs (i + 1) d, List.length_cons]
    rw [show i + 1 + xs.length = i + (xs.length + 1) by omega]

theorem lenSeat (d : SeatD) (o : Option SeatD) (st : St) (hd : SeatOk d) (hn : st.2.length + 1 ≤ 1073741824) : (putSeat d o st).1.length ≤ st.1.length + 2100000 ∧ (putSeat d o st).2.length ≤ st.2.length + 1 := by
  unfold putSeat
  split
  · have := lenB 0 st; omega
  · generalize (2 ||| bitB d.folded 4 ||| bitB d.allIn 8 ||| bitB d.conn 16) = zb
    have hnm := hd.name
    have hcd := hd.cards
    unfold CardsOk at hcd
    have b0 := lenB zb st
    have b1 := lenV d.seat (putB zb st) hd.seat
    have b2 := lenStr d.name (putV d.seat (putB zb st)) (by omega) (by omega)
    have b3 := lenV d.stack (putStr d.name (putV d.seat (putB zb st))) hd.stack
    have b4 := lenV d.bet (putV d.stack (putStr d.name (putV d.seat (putB zb st)))) hd.bet
    have b5 := lenCards d.cards (putV d.bet (putV d.stack (putStr d.name (putV d.seat (putB zb st))))) (by omega)
    omega
theorem lenSeatsFrom (before : List SeatD) : ∀ (ds : List SeatD) (i : Nat) (st : St), (∀ d ∈ ds, SeatOk d) → st.2.length + ds.length ≤ 1073741824 →
    (putSeatsFrom before i ds st).1.length ≤ st.1.length + ds.length * 2100000 ∧ (putSeatsFrom before i ds st).2.length ≤ st.2.length + ds.length
  | [], _, _, _, _ => by simp [putSeatsFrom]
  | d :: ds, i, st, h, hn => by
    simp only [List.length_cons] at hn
    have h1 := lenSeat d before[i]? st (h d (by simp)) (by omega)
    have h2 := lenSeatsFrom before ds (i + 1) (putSeat d before[i]? st) (fun x hx => h x (by simp [hx])) (by omega)
    simp only [putSeatsFrom, List.length_cons]
    omega

structure SeatsOk (o : Option (List SeatD)) : Prop where
  many : (o.getD []).length ≤ 10923
  each : ∀ d ∈ o.getD [], SeatOk d

set_option maxHeartbeats 4000000 in
set_option maxRecDepth 100000 in
theorem s_seats_none (s : Nat) (R : Nat → Prop) (st : St) (bv sv : Value) (p : Addr) (vb : Value) (before : List SeatD) (w : World) (h : Sto w s R st bv sv) (hlim : st.1.length + 10 ≤ 140737488355328)
    (hp : R p.block) (hc : w.cell? p = some (.slice none 0 0)) : Calls Try.prog 63 #[.pointer (some ⟨s, 0, none⟩), .pointer (some p), vb] w fun e w' => Step s R w (putSeats none before st) e w' := by
  have C := hd ((s_length_nil s R st bv sv 0 w.drew h.drew hlim).mono fun e w' h => h.ofDrew)
  clear h
  go_enter Try.func63, Try.ntmps63
  go_wp2_with fail
  go_region_with (go_at_call 66; refine C.out.mono ?_; rintro e w' ⟨rfl, h1, h2⟩; have hpc := (h2.cell hp).trans hc; have HR := hd (And.intro h1 h2); clear h1 h2)
  all_goals
    go_wp2
    go_loop [6, 21] (fun _ i => i = .int .i64 0) (fun _ _ => 0)
    case atStart => rfl
    case round =>
      subst hrel
      go_wp2
      go_end0
      exact ⟨rfl, HR.out.1, HR.out.2⟩

set_option maxHeartbeats 4000000 in
set_option maxRecDepth 100000 in
theorem s_seats_some (s : Nat) (R : Nat → Prop) (st : St) (bv sv : Value) (p a : Addr) (cap : Nat) (ds : List SeatD) (vb : Value) (before : List SeatD) (w : World) (h : Sto w s R st bv sv) (hok : SeatsOk (some ds)) (hlim : st.1.length + 22960000000 ≤ 140737488355328) (hn : st.2.length + 10923 ≤ 1073741824)
    (hp : R p.block) (hc : w.cell? p = some (.slice (some a) ds.length cap)) (hds : ds.length ≤ 0 ∨ (0 < ds.length ∧ ∃ b off, a = ⟨b, off, none⟩ ∧ Hid (∀ i, i < ds.length → ∃ d cv, ds[i]? = some d ∧ SeatAt w R b (off + i * 8) d cv))) (hbf : BeforeAt w R vb before) (hbl : before.length ≤ 1048577) :
    Calls Try.prog 63 #[.pointer (some ⟨s, 0, none⟩), .pointer (some p), vb] w fun e w' => Step s R w (putSeats (some ds) before st) e w' := by
  have hmany : ds.length ≤ 10923 := hok.many
  have HEACH : Hid (∀ d ∈ ds, SeatOk d) := hok.each
  have C := hd ((s_length_some s R st bv sv ds.length (by omega) w.drew h.drew (by omega)).mono fun e w' h => h.ofDrew)
  have HP := putLen_len (some ds.length) st (fun k hk => by have := Option.some.inj hk; omega)
  have hn1 : (putLen (some ds.length) st).2.length + 10923 ≤ 1073741824 := hn
  have HE : Hid (putSeats (some ds) before st = putSeatsFrom before 0 ds (putLen (some ds.length) st)) := rfl
  rw [HE.out]
  have HBF := hd hbf
  clear h hbf hok
  generalize putLen (some ds.length) st = st1 at C HP hn1 ⊢
  rcases hds with h0 | ⟨h0, b, off, rfl, HC⟩
  · have HCE : Hid (putSeatsFrom before 0 ds st1 = st1) := by
      have : ds = [] := List.eq_nil_of_length_eq_zero (by omega)
      show putSeatsFrom before 0 ds st1 = st1
      rw [this]; rfl
    rw [HCE.out]
    go_enter Try.func63, Try.ntmps63
    go_wp2_with fail
    go_region_with (go_at_call 66; refine C.out.mono ?_; rintro e w' ⟨rfl, h1, h2⟩; have hpc := (h2.cell hp).trans hc; have HR := hd (And.intro h1 h2); clear h1 h2)
    all_goals
      go_wp2
      go_loop [6, 21] (fun _ i => i = .int .i64 0) (fun _ _ => 0)
      case atStart => rfl
      case round =>
        subst hrel
        go_wp2
        go_end0
        exact ⟨rfl, HR.out.1, HR.out.2⟩
  · go_enter Try.func63, Try.ntmps63
    go_wp2_with fail
    go_region_with (go_at_call 66; refine C.out.mono ?_; rintro e w' ⟨rfl, h1, h2⟩; have hpc := (h2.cell hp).trans hc; have HR := hd (And.intro h1 h2); clear h1 h2)
    all_goals
      go_wp2
      go_loopw [6, 21] (fun _ i wr => ∃ (k : Nat), k ≤ ds.length ∧ i = .int .i64 k ∧ (∃ bv sv, Sto wr s R (putSeatsFrom before 0 (ds.take k) st1) bv sv) ∧ Fr R w wr) (fun _ i _ => ds.length - (intOf i).toNat)
      case atStart => exact ⟨0, Nat.zero_le _, rfl, HR.out.1, HR.out.2⟩
      case round =>
        obtain ⟨k, hk, rfl, ⟨bv1, sv1, hS⟩, hF⟩ := hrel
        by_cases hlt : k < ds.length
        · obtain ⟨d, cv, hdk, hseat⟩ := HC.out k hlt
          have hpk := (hF.cell hp).trans hc
          have hlen := lenSeatsFrom before (ds.take k) 0 st1 (fun d hd => HEACH.out d (List.mem_of_mem_take hd)) (by simp; omega)
          have htk : (ds.take k).length = k := by simp; omega
          rw [htk] at hlen
          have HTK : Hid (putSeatsFrom before 0 (ds.take (k + 1)) st1 = putSeat d before[k]? (putSeatsFrom before 0 (ds.take k) st1)) := by
            show _ = _
            have e : ds.take (k + 1) = ds.take k ++ [d] := by
              rw [List.take_add_one, hdk]; rfl
            rw [e, putSeatsFrom_snoc, htk, Nat.zero_add]
          have C2 := hd (s_seat s R _ bv1 sv1 b (off + k * 8) d cv vb before k wr hS (by omega) (by omega) (hseat.kept hF.same) (HEACH.out d (List.mem_of_getElem? hdk)) (HBF.out.kept hF.same) hbl (by omega))
          have HF := hd hF
          clear hS hF hseat hdk hlen htk
          go_wp2_with (go_at_call 68; refine C2.out.mono ?_; rintro e w2 ⟨rfl, h1, h2⟩; have HR2 := hd (And.intro h1 h2); clear h1 h2)
          go_roundw
          case rel => exact ⟨k + 1, by omega, by go_num, HTK.out ▸ HR2.out.1, HF.out.trans HR2.out.2⟩
          case measure => simp [intOf]; omega
        · have HTK : Hid (ds.take k = ds) := List.take_of_length_le (by omega)
          rw [HTK.out] at hS
          have HS := hd hS
          clear hS
          go_wp2
          go_end0
          exact ⟨rfl, ⟨_, _, HS.out⟩, hF⟩

theorem s_seats (s : Nat) (R : Nat → Prop) (st : St) (bv sv : Value) (p : Addr) (v : Value) (o : Option (List SeatD)) (vb : Value) (before : List SeatD) (w : World) (h : Sto w s R st bv sv) (hok : SeatsOk o) (hlim : st.1.length + 22960000000 ≤ 140737488355328) (hn : st.2.length + 10923 ≤ 1073741824)
    (hp : R p.block) (hc : w.cell? p = some v) (hv : SeatsAt w R v o) (hbf : BeforeAt w R vb before) (hbl : before.length ≤ 1048577) :
    Calls Try.prog 63 #[.pointer (some ⟨s, 0, none⟩), .pointer (some p), vb] w fun e w' => Step s R w (putSeats o before st) e w' := by
  cases o with
  | none =>
    have hv : v = .slice none 0 0 := hv
    subst hv
    exact s_seats_none s R st bv sv p vb before w h (by omega) hp hc
  | some ds =>
    obtain ⟨a, cap, rfl, h2⟩ := hv
    exact s_seats_some s R st bv sv p a cap ds vb before w h hok hlim hn hp hc h2 hbf hbl
end Go.Proofs.Qxb6618929a
