/-
  zzDecState.
-/
import Derived.Test.Qxb6618929aDec8
namespace Go.Proofs.Qxb6618929a
open Go Go.RowKit

theorem d_seats (s : Nat) (R B : Nat → Prop) (out : List UInt8) (p : Nat) (ts : List (List UInt8)) (bv sv vbf : Value) (o : Option (List SeatD)) (before : List SeatD) (rest : List UInt8) (w : World) (h : Dec w s R out p ts bv sv) (hout : out.length ≤ 140737489403904) (hroom : Room bv) (hB : ∀ i, B i → R i) (hbf : BeforeAt w B vbf before) (hbn : before.length ≤ 10923)
    (hok : SeatsOk o) (hts : ts.length + 10923 ≤ 1073741824) (hc : out.drop p = (putSeats o before ([], ts)).1 ++ rest) :
    Calls Try.prog 33 #[.pointer (some ⟨s, 0, none⟩), vbf] w fun e w' => ∃ v, e = .returned v ∧ DecNew s R w out (p + (putSeats o before ([], ts)).1.length) (putSeats o before ([], ts)).2 bv (fun N w' => SeatsAt w' (fun i => B i ∨ N i) v o) w' := by
  cases o with
  | none =>
    refine (d_seats_none s R out p ts bv sv vbf rest w h hout hc).mono ?_
    rintro e w' ⟨rfl, ⟨sv', h1⟩, h2⟩
    exact ⟨_, rfl, fun _ => False, fun _ h => h.elim, ⟨sv', h1.same (fun k => ⟨.inl, fun h => h.elim id False.elim⟩)⟩, h2, rfl⟩
  | some ds =>
    have e : putSeats (some ds) before ([], ts) = (Lib.uvarint (ds.length + 1) ++ (putSeatsFrom before 0 ds ([], ts)).1, (putSeatsFrom before 0 ds ([], ts)).2) := by
      show putSeatsFrom before 0 ds ([] ++ Lib.uvarint (ds.length + 1), ts) = _
      rw [app_split (apps_SeatsFrom before 0 ds)]
      rfl
    rw [e] at hc ⊢
    simp only [List.append_assoc] at hc
    refine (d_seats_some s R B out p ts bv sv vbf ds before rest w h hout hroom hB hbf hbn hok.many hok.each hts hc).mono ?_
    rintro e w' ⟨v, rfl, h1⟩
    refine ⟨v, rfl, ?_⟩
    simpa only [List.length_append, Nat.add_assoc] using h1

/-- P hangs on the blocks of R alone. -/
def Stay (R : Nat → Prop) (P : World → Prop) : Prop := ∀ w w' : World, Same R w w' → P w → P w'
/-- .. and what was read before. -/
structure TD (wa wr : World) (s T : Nat) (R0 F R : Nat → Prop) (out : List UInt8) (p : Nat) (ts : List (List UInt8)) (bv sv : Value) (ty : TypeId) (cells : Array Value) (P : World → Prop) : Prop where
  t : TIn wa wr s T R0 F R out p ts bv sv ty cells
  data : P wr
  stay : Stay R P
section
variable {wa wr w2 : World} {s T : Nat} {R0 F R : Nat → Prop} {out : List UInt8} {p p2 : Nat} {ts ts2 : List (List UInt8)} {bv sv sv2 : Value} {ty : TypeId} {cells : Array Value} {P : World → Prop}
theorem TD.poke (h : TD wa wr s T R0 F R out p ts bv sv ty cells P) (j : Nat) (v : Value) : TD wa (wr.setCell ⟨T, j, none⟩ v) s T R0 F R out p ts bv sv ty (cells.setIfInBounds j v) P :=
  ⟨h.t.poke j v, h.stay _ _ (fun k hk => Below.heap_setCell _ _ _ _ (fun e => h.t.out (by rw [← show k = T from e]; exact hk))) h.data, h.stay⟩
theorem TD.call (h : TD wa wr s T R0 F R out p ts bv sv ty cells P) (hd : Dec w2 s (fun i => R i ∨ i = T) out p2 ts2 bv sv2) (hf : Fr (fun i => R i ∨ i = T) wr w2) : TD wa w2 s T R0 F R out p2 ts2 bv sv2 ty cells P :=
  ⟨h.t.call hd hf, h.stay _ _ (fun k hk => hf.block k (.inl hk)) h.data, h.stay⟩
theorem TD.callNew (h : TD wa wr s T R0 F R out p ts bv sv ty cells P) {N : Nat → Prop} (hN : ∀ k, N k → wr.heap.size ≤ k ∧ k < w2.heap.size) (hd : Dec w2 s (fun i => (R i ∨ i = T) ∨ N i) out p2 ts2 bv sv2) (hf : Fr (fun i => R i ∨ i = T) wr w2)
    {Q : World → Prop} (hq : Q w2) (hQ : Stay (fun i => R i ∨ N i) Q) : TD wa w2 s T R0 F (fun i => R i ∨ N i) out p2 ts2 bv sv2 ty cells (fun w => Q w ∧ P w) :=
  ⟨h.t.callNew hN hd hf, ⟨hq, h.stay _ _ (fun k hk => hf.block k (.inl hk)) h.data⟩, fun a b hs hp => ⟨hQ a b hs hp.1, h.stay a b (fun k hk => hs k (.inl hk)) hp.2⟩⟩
end
theorem stay_opt {R N : Nat → Prop} (h : ∀ i, N i → R i) (v : Value) (o : Option Int) : Stay R (fun w => OptAt w N v o) := fun _ _ hs hp => hp.kept (fun k hk => hs k (h k hk))
theorem stay_cards {R N : Nat → Prop} (h : ∀ i, N i → R i) (v : Value) (o : Option (List UInt8)) : Stay R (fun w => CardsAt w N v o) := fun _ _ hs hp => hp.kept (fun k hk => hs k (h k hk))
theorem stay_seats {R N : Nat → Prop} (h : ∀ i, N i → R i) (v : Value) (o : Option (List SeatD)) : Stay R (fun w => SeatsAt w N v o) := fun _ _ hs hp => hp.kept (fun k hk => hs k (h k hk))

/-! ### A state, part by part -/
theorem str_step (t X : List UInt8) (ts : List (List UInt8)) : putStr t (X, ts) = (X ++ (putStr t ([], ts)).1, (putStr t ([], ts)).2) := app_split (apps_Str t) (X, ts)
theorem opt_step (o : Option Int) (X : List UInt8) (ts : List (List UInt8)) : putOpt o (X, ts) = (X ++ (putOpt o ([], [])).1, ts) := by cases o <;> simp [putOpt, putB, putV]
theorem seats_step (o : Option (List SeatD)) (before : List SeatD) (X : List UInt8) (ts : List (List UInt8)) : putSeats o before (X, ts) = (X ++ (putSeats o before ([], ts)).1, (putSeats o before ([], ts)).2) := app_split (apps_Seats o before) (X, ts)
def t1 (d : StateD) (ts : List (List UInt8)) : List (List UInt8) := (putStr d.type ([], ts)).2
def t2 (d : StateD) (ts : List (List UInt8)) : List (List UInt8) := (putStr d.kind ([], t1 d ts)).2
def t3 (d : StateD) (ts : List (List UInt8)) : List (List UInt8) := (putStr d.action ([], t2 d ts)).2
def t4 (d : StateD) (ts : List (List UInt8)) : List (List UInt8) := (putStr d.street ([], t3 d ts)).2
def t5 (d : StateD) (ts : List (List UInt8)) : List (List UInt8) := (putStr d.tstreet ([], t4 d ts)).2
def t6 (d : StateD) (before : List SeatD) (ts : List (List UInt8)) : List (List UInt8) := (putSeats d.seats before ([], t5 d ts)).2
theorem state_parts (d : StateD) (before : List SeatD) (ts : List (List UInt8)) : putState d before ([], ts) = ((putStr d.type ([], ts)).1 ++ (vb d.seq ++ ((putStr d.kind ([], t1 d ts)).1 ++ ((putOpt d.eseat ([], [])).1 ++ ((putStr d.action ([], t2 d ts)).1 ++ (vb d.amount ++ ((putStr d.street ([], t3 d ts)).1 ++ ((putCards d.eboard ([], [])).1 ++ (vb d.place ++ (vb d.hand ++ (vb d.sb ++ (vb d.bb ++ (vb d.ante ++ ((putStr d.tstreet ([], t4 d ts)).1 ++ (vb d.button ++ ((putCards d.board ([], [])).1 ++ (vb d.pot ++ ((putOpt d.toAct ([], [])).1 ++ ((putSeats d.seats before ([], t5 d ts)).1 ++ ([bitB d.resync 1]))))))))))))))))))), t6 d before ts) := by
  unfold putState
  rw [show putStr d.type ([], ts) = ((putStr d.type ([], ts)).1, t1 d ts) from rfl]
  simp only [putV]
  rw [str_step d.kind, ← t2]
  rw [opt_step d.eseat, str_step d.action, ← t3]
  simp only
  rw [str_step d.street, ← t4, putCards_any d.eboard]
  simp only
  rw [str_step d.tstreet, ← t5]
  simp only
  rw [putCards_any d.board]
  simp only
  rw [opt_step d.toAct, seats_step d.seats, ← t6, putB]
  simp only [List.append_assoc]

theorem Try.siz50 : (Try.prog.info? 50).map (·.size) = some 24 := by kernel_rfl
theorem results_cell {fn : Func} {t : Tmp} {ty : TypeId} (h : fn.results = #[.cell t ty]) (tmps : Array Value) (P : Program) (w : World) {b : Nat} {v : Value} (hp : tmps.getD t undef = .pointer (some ⟨b, 0, none⟩)) (hl : (loadVar ty ⟨b, 0, none⟩).run P w = .ok v w) : (results fn tmps).run P w = .ok v w := by
  have hp2 : tmps[t]?.getD undef = .pointer (some ⟨b, 0, none⟩) := by simpa using hp
  simp [results, h, hp2, asAddr, hl]
theorem lens (d : StateD) (ts : List (List UInt8)) (ok : StateOk d) (h : ts.length + 11000 ≤ 1073741824) : (t1 d ts).length ≤ ts.length + 1 ∧ (t2 d ts).length ≤ ts.length + 2 ∧ (t3 d ts).length ≤ ts.length + 3 ∧ (t4 d ts).length ≤ ts.length + 4 ∧ (t5 d ts).length ≤ ts.length + 5 := by
  have h1 : (t1 d ts).length ≤ ts.length + 1 := (lenStr d.type ([], ts) (by simp; omega) (by have := ok.type; omega)).2
  have h2 : (t2 d ts).length ≤ (t1 d ts).length + 1 := (lenStr d.kind ([], t1 d ts) (by simp; omega) (by have := ok.kind; omega)).2
  have h3 : (t3 d ts).length ≤ (t2 d ts).length + 1 := (lenStr d.action ([], t2 d ts) (by simp; omega) (by have := ok.action; omega)).2
  have h4 : (t4 d ts).length ≤ (t3 d ts).length + 1 := (lenStr d.street ([], t3 d ts) (by simp; omega) (by have := ok.street; omega)).2
  have h5 : (t5 d ts).length ≤ (t4 d ts).length + 1 := (lenStr d.tstreet ([], t4 d ts) (by simp; omega) (by have := ok.tstreet; omega)).2
  omega

set_option linter.unusedSimpArgs false in
set_option maxRecDepth 100000 in
set_option maxHeartbeats 40000000 in
theorem d_state (s : Nat) (R B : Nat → Prop) (out : List UInt8) (p : Nat) (ts : List (List UInt8)) (bv sv vbf : Value) (d : StateD) (before : List SeatD) (rest : List UInt8) (w : World) (h : Dec w s R out p ts bv sv) (hout : out.length ≤ 140737489403904) (hroom : Room bv) (hB : ∀ i, B i → R i) (hbf : BeforeAt w B vbf before) (hbn : before.length ≤ 10923)
    (ok : StateOk d) (hts : ts.length + 11000 ≤ 1073741824) (hc : out.drop p = (putState d before ([], ts)).1 ++ rest) :
    Calls Try.prog 18 #[.pointer (some ⟨s, 0, none⟩), vbf] w fun e w' => ∃ z : ZIn, e = .returned (.agg z.cells.toArray) ∧ z.d = d ∧ DecNew s R w out (p + (putState d before ([], ts)).1.length) (putState d before ([], ts)).2 bv (fun N w' => ZAt w' (fun i => B i ∨ N i) z) w' := by
  obtain ⟨l1, l2, l3, l4, l5⟩ := lens d ts ok hts
  rw [state_parts] at hc ⊢
  simp only [List.append_assoc, List.cons_append, List.nil_append] at hc
  have HOK := hd ok
  have HB := hd hB
  have HRM := hd hroom
  have HE0 := hd hc
  have HE1 := hd (drop_app HE0.out)
  have HE2 := hd (drop_app HE1.out)
  have HE3 := hd (drop_app HE2.out)
  have HE4 := hd (drop_app HE3.out)
  have HE5 := hd (drop_app HE4.out)
  have HE6 := hd (drop_app HE5.out)
  have HE7 := hd (drop_app HE6.out)
  have HE8 := hd (drop_app HE7.out)
  have HE9 := hd (drop_app HE8.out)
  have HE10 := hd (drop_app HE9.out)
  have HE11 := hd (drop_app HE10.out)
  have HE12 := hd (drop_app HE11.out)
  have HE13 := hd (drop_app HE12.out)
  have HE14 := hd (drop_app HE13.out)
  have HE15 := hd (drop_app HE14.out)
  have HE16 := hd (drop_app HE15.out)
  have HE17 := hd (drop_app HE16.out)
  have HE18 := hd (drop_app HE17.out)
  have HE19 := hd (drop_app HE18.out)
  have HLEN : Hid (p + ((putStr d.type ([], ts)).1 ++ (vb d.seq ++ ((putStr d.kind ([], t1 d ts)).1 ++ ((putOpt d.eseat ([], [])).1 ++ ((putStr d.action ([], t2 d ts)).1 ++ (vb d.amount ++ ((putStr d.street ([], t3 d ts)).1 ++ ((putCards d.eboard ([], [])).1 ++ (vb d.place ++ (vb d.hand ++ (vb d.sb ++ (vb d.bb ++ (vb d.ante ++ ((putStr d.tstreet ([], t4 d ts)).1 ++ (vb d.button ++ ((putCards d.board ([], [])).1 ++ (vb d.pot ++ ((putOpt d.toAct ([], [])).1 ++ ((putSeats d.seats before ([], t5 d ts)).1 ++ [bitB d.resync 1]))))))))))))))))))).length = p + (putStr d.type ([], ts)).1.length + (vb d.seq).length + (putStr d.kind ([], t1 d ts)).1.length + (putOpt d.eseat ([], [])).1.length + (putStr d.action ([], t2 d ts)).1.length + (vb d.amount).length + (putStr d.street ([], t3 d ts)).1.length + (putCards d.eboard ([], [])).1.length + (vb d.place).length + (vb d.hand).length + (vb d.sb).length + (vb d.bb).length + (vb d.ante).length + (putStr d.tstreet ([], t4 d ts)).1.length + (vb d.button).length + (putCards d.board ([], [])).1.length + (vb d.pot).length + (putOpt d.toAct ([], [])).1.length + (putSeats d.seats before ([], t5 d ts)).1.length + 1) := by
    show _ = _
    simp only [List.length_append, List.length_singleton]
    omega
  simp only
  rw [HLEN.out]
  have HH := hd h
  obtain ⟨ab, cb, hvb, HBF⟩ : ∃ ab cb, vbf = .slice ab before.length cb ∧ Hid (BeforeAt w B vbf before) := by
    have hbf' := hbf
    obtain ⟨ab, cb, hv, _⟩ := hbf'
    exact ⟨ab, cb, hv, hbf⟩
  subst hvb
  have HT := hd (TIn.alloc (w := w.alloc (.cells #[.string ⟨#[]⟩, .int .i64 0, .string ⟨#[]⟩, .pointer none, .string ⟨#[]⟩, .int .i64 0, .string ⟨#[]⟩, .slice none 0 0, .int .i64 0, .bool false, .string ⟨#[]⟩, .int .i64 0, .slice none 0 0, .int .i64 0, .int .i64 0, .int .i64 0, .int .i64 0, .string ⟨#[]⟩, .int .i64 0, .slice none 0 0, .int .i64 0, .pointer none, .slice none 0 0, .bool false] 50)) (R0 := R) (F := fun i => R i ∨ i = w.heap.size) (h.hold (.cells #[.string ⟨#[]⟩, .int .i64 0, .string ⟨#[]⟩, .pointer none, .string ⟨#[]⟩, .int .i64 0, .string ⟨#[]⟩, .slice none 0 0, .int .i64 0, .bool false, .string ⟨#[]⟩, .int .i64 0, .slice none 0 0, .int .i64 0, .int .i64 0, .int .i64 0, .int .i64 0, .string ⟨#[]⟩, .int .i64 0, .slice none 0 0, .int .i64 0, .pointer none, .slice none 0 0, .bool false] 50)).1 (h.bytes.kept (fun k hk => Below.heap_alloc w _ k (h.base k hk))) (fun i hi => .inl hi) (fun i hi => hi) 50 #[.string ⟨#[]⟩, .int .i64 0, .string ⟨#[]⟩, .pointer none, .string ⟨#[]⟩, .int .i64 0, .string ⟨#[]⟩, .slice none 0 0, .int .i64 0, .bool false, .string ⟨#[]⟩, .int .i64 0, .slice none 0 0, .int .i64 0, .int .i64 0, .int .i64 0, .int .i64 0, .string ⟨#[]⟩, .int .i64 0, .slice none 0 0, .int .i64 0, .pointer none, .slice none 0 0, .bool false])
  rw [show (w.alloc (.cells #[.string ⟨#[]⟩, .int .i64 0, .string ⟨#[]⟩, .pointer none, .string ⟨#[]⟩, .int .i64 0, .string ⟨#[]⟩, .slice none 0 0, .int .i64 0, .bool false, .string ⟨#[]⟩, .int .i64 0, .slice none 0 0, .int .i64 0, .int .i64 0, .int .i64 0, .int .i64 0, .string ⟨#[]⟩, .int .i64 0, .slice none 0 0, .int .i64 0, .pointer none, .slice none 0 0, .bool false] 50)).heap.size = w.heap.size + 1 by simp] at HT
  have HP : Hid (TD _ _ s (w.heap.size + 1) R (fun i => R i ∨ i = w.heap.size) (fun i => R i ∨ i = w.heap.size) out p ts bv sv 50 _ (fun _ => True)) := ⟨HT.out, trivial, fun _ _ _ h => h⟩
  have HF0 := hd (h.hold (.cells #[.string ⟨#[]⟩, .int .i64 0, .string ⟨#[]⟩, .pointer none, .string ⟨#[]⟩, .int .i64 0, .string ⟨#[]⟩, .slice none 0 0, .int .i64 0, .bool false, .string ⟨#[]⟩, .int .i64 0, .slice none 0 0, .int .i64 0, .int .i64 0, .int .i64 0, .int .i64 0, .string ⟨#[]⟩, .int .i64 0, .slice none 0 0, .int .i64 0, .pointer none, .slice none 0 0, .bool false] 50)).2
  have HRB : Hid ((w.alloc (.cells #[.string ⟨#[]⟩, .int .i64 0, .string ⟨#[]⟩, .pointer none, .string ⟨#[]⟩, .int .i64 0, .string ⟨#[]⟩, .slice none 0 0, .int .i64 0, .bool false, .string ⟨#[]⟩, .int .i64 0, .slice none 0 0, .int .i64 0, .int .i64 0, .int .i64 0, .int .i64 0, .string ⟨#[]⟩, .int .i64 0, .slice none 0 0, .int .i64 0, .pointer none, .slice none 0 0, .bool false] 50)).heap[w.heap.size]? = some (.cells #[.string ⟨#[]⟩, .int .i64 0, .string ⟨#[]⟩, .pointer none, .string ⟨#[]⟩, .int .i64 0, .string ⟨#[]⟩, .slice none 0 0, .int .i64 0, .bool false, .string ⟨#[]⟩, .int .i64 0, .slice none 0 0, .int .i64 0, .int .i64 0, .int .i64 0, .int .i64 0, .string ⟨#[]⟩, .int .i64 0, .slice none 0 0, .int .i64 0, .pointer none, .slice none 0 0, .bool false] 50 (0, 0))) := heap_alloc_new w _
  clear h hc ok hB hroom hbf HT
  go_enter Try.func18, Try.ntmps18
  go_upto_region 2 with fail
  generalize (w.alloc (.cells #[.string ⟨#[]⟩, .int .i64 0, .string ⟨#[]⟩, .pointer none, .string ⟨#[]⟩, .int .i64 0, .string ⟨#[]⟩, .slice none 0 0, .int .i64 0, .bool false, .string ⟨#[]⟩, .int .i64 0, .slice none 0 0, .int .i64 0, .int .i64 0, .int .i64 0, .int .i64 0, .string ⟨#[]⟩, .int .i64 0, .slice none 0 0, .int .i64 0, .pointer none, .slice none 0 0, .bool false] 50)).alloc (.cells #[.string ⟨#[]⟩, .int .i64 0, .string ⟨#[]⟩, .pointer none, .string ⟨#[]⟩, .int .i64 0, .string ⟨#[]⟩, .slice none 0 0, .int .i64 0, .bool false, .string ⟨#[]⟩, .int .i64 0, .slice none 0 0, .int .i64 0, .int .i64 0, .int .i64 0, .int .i64 0, .string ⟨#[]⟩, .int .i64 0, .slice none 0 0, .int .i64 0, .pointer none, .slice none 0 0, .bool false] 50) = W at HP ⊢
  have HWA : Hid (w.heap.size < (w.alloc (.cells #[.string ⟨#[]⟩, .int .i64 0, .string ⟨#[]⟩, .pointer none, .string ⟨#[]⟩, .int .i64 0, .string ⟨#[]⟩, .slice none 0 0, .int .i64 0, .bool false, .string ⟨#[]⟩, .int .i64 0, .slice none 0 0, .int .i64 0, .int .i64 0, .int .i64 0, .int .i64 0, .string ⟨#[]⟩, .int .i64 0, .slice none 0 0, .int .i64 0, .pointer none, .slice none 0 0, .bool false] 50)).heap.size) := by show _ < _; simp
  generalize w.alloc (.cells #[.string ⟨#[]⟩, .int .i64 0, .string ⟨#[]⟩, .pointer none, .string ⟨#[]⟩, .int .i64 0, .string ⟨#[]⟩, .slice none 0 0, .int .i64 0, .bool false, .string ⟨#[]⟩, .int .i64 0, .slice none 0 0, .int .i64 0, .int .i64 0, .int .i64 0, .int .i64 0, .string ⟨#[]⟩, .int .i64 0, .slice none 0 0, .int .i64 0, .pointer none, .slice none 0 0, .bool false] 50) = WA at HP HF0 HRB HWA
  obtain ⟨Z, HZ⟩ : ∃ Z, Hid (w.heap.size + 1 = Z) := ⟨_, rfl⟩
  rw [HZ.out] at HP ⊢
  obtain ⟨G, HG⟩ : ∃ G, Hid (w.heap.size = G) := ⟨_, rfl⟩
  have HSZ : Hid (w.heap.size ≤ G) := Nat.le_of_eq HG.out
  rw [HG.out] at HP HRB ⊢
  have CC := hd (d_string s _ out _ ts _ sv d.type _ W HP.out.t.dec hout HRM.out (by omega) HE0.out)
  unfold encS at CC
  go_upto_region 3 with (go_at_call 28; refine CC.out.mono ?_; rintro e v0 ⟨rfl, ⟨sv0, g1⟩, g2⟩; have HU := hd (HP.out.call g1 g2); have hc : v0.cell? ⟨Z, 0, none⟩ = some (.string ⟨#[]⟩) := (HU.out.t.cell 0).1; have hf := (HU.out.t.cell 0).2; clear g1 g2)
  have HP0 := hd (HU.out.poke 0 (.string ⟨d.type.toArray⟩))
  simp only [List.setIfInBounds_toArray, List.set_cons_zero, List.set_cons_succ] at HP0
  clear hc hf HU CC HP
  generalize v0.setCell ⟨Z, 0, none⟩ (.string ⟨d.type.toArray⟩) = V0 at HP0 ⊢
  have CC := hd (d_varint s _ out _ (t1 d ts) _ sv0 d.seq _ V0 HP0.out.t.dec hout HOK.out.seq HE1.out)
  go_upto_region 4 with (go_at_call 29; refine CC.out.mono ?_; rintro e v1 ⟨rfl, ⟨sv1, g1⟩, g2⟩; have HU := hd (HP0.out.call g1 g2); have hc : v1.cell? ⟨Z, 1, none⟩ = some (.int .i64 0) := (HU.out.t.cell 1).1; have hf := (HU.out.t.cell 1).2; clear g1 g2)
  have HP1 := hd (HU.out.poke 1 (.int .i64 d.seq))
  simp only [List.setIfInBounds_toArray, List.set_cons_zero, List.set_cons_succ] at HP1
  clear hc hf HU CC HP0
  generalize v1.setCell ⟨Z, 1, none⟩ (.int .i64 d.seq) = V1 at HP1 ⊢
  have CC := hd (d_string s _ out _ (t1 d ts) _ sv1 d.kind _ V1 HP1.out.t.dec hout HRM.out (by omega) HE2.out)
  unfold encS at CC
  go_upto_region 5 with (go_at_call 28; refine CC.out.mono ?_; rintro e v2 ⟨rfl, ⟨sv2, g1⟩, g2⟩; have HU := hd (HP1.out.call g1 g2); have hc : v2.cell? ⟨Z, 2, none⟩ = some (.string ⟨#[]⟩) := (HU.out.t.cell 2).1; have hf := (HU.out.t.cell 2).2; clear g1 g2)
  have HP2 := hd (HU.out.poke 2 (.string ⟨d.kind.toArray⟩))
  simp only [List.setIfInBounds_toArray, List.set_cons_zero, List.set_cons_succ] at HP2
  clear hc hf HU CC HP1
  generalize v2.setCell ⟨Z, 2, none⟩ (.string ⟨d.kind.toArray⟩) = V2 at HP2 ⊢
  have CC := hd (d_opt s _ out _ (t2 d ts) _ sv2 d.eseat _ V2 HP2.out.t.dec hout HOK.out.eseat HE3.out)
  go_upto_region 6 with (go_at_call 30; refine CC.out.mono ?_; rintro e v3 ⟨vv, rfl, N3, n1, ⟨sv3, g1⟩, g2, g3⟩; obtain ⟨o3, ho⟩ := opt_form g3; subst ho; have HU := hd (HP2.out.callNew n1 g1 g2 g3 (stay_opt (fun i hi => .inr hi) _ _)); have hc : v3.cell? ⟨Z, 3, none⟩ = some (.pointer none) := (HU.out.t.cell 3).1; have hf := (HU.out.t.cell 3).2; have HN3 : Hid (∀ k, N3 k → w.heap.size < k) := (fun k hk => Nat.lt_of_lt_of_le HWA.out (Nat.le_trans HP2.out.t.fr.size (n1 k hk).1)); clear g1 g2)
  have HP3 := hd (HU.out.poke 3 (.pointer o3))
  simp only [List.setIfInBounds_toArray, List.set_cons_zero, List.set_cons_succ] at HP3
  clear hc hf HU CC HP2
  generalize v3.setCell ⟨Z, 3, none⟩ (.pointer o3) = V3 at HP3 ⊢
  have CC := hd (d_string s _ out _ (t2 d ts) _ sv3 d.action _ V3 HP3.out.t.dec hout HRM.out (by omega) HE4.out)
  unfold encS at CC
  go_upto_region 7 with (go_at_call 28; refine CC.out.mono ?_; rintro e v4 ⟨rfl, ⟨sv4, g1⟩, g2⟩; have HU := hd (HP3.out.call g1 g2); have hc : v4.cell? ⟨Z, 4, none⟩ = some (.string ⟨#[]⟩) := (HU.out.t.cell 4).1; have hf := (HU.out.t.cell 4).2; clear g1 g2)
  have HP4 := hd (HU.out.poke 4 (.string ⟨d.action.toArray⟩))
  simp only [List.setIfInBounds_toArray, List.set_cons_zero, List.set_cons_succ] at HP4
  clear hc hf HU CC HP3
  generalize v4.setCell ⟨Z, 4, none⟩ (.string ⟨d.action.toArray⟩) = V4 at HP4 ⊢
  have CC := hd (d_int s _ out _ (t3 d ts) _ sv4 d.amount _ V4 HP4.out.t.dec hout HOK.out.amount HE5.out)
  go_upto_region 8 with (go_at_call 31; refine CC.out.mono ?_; rintro e v5 ⟨rfl, ⟨sv5, g1⟩, g2⟩; have HU := hd (HP4.out.call g1 g2); have hc : v5.cell? ⟨Z, 5, none⟩ = some (.int .i64 0) := (HU.out.t.cell 5).1; have hf := (HU.out.t.cell 5).2; clear g1 g2)
  have HP5 := hd (HU.out.poke 5 (.int .i64 d.amount))
  simp only [List.setIfInBounds_toArray, List.set_cons_zero, List.set_cons_succ] at HP5
  clear hc hf HU CC HP4
  generalize v5.setCell ⟨Z, 5, none⟩ (.int .i64 d.amount) = V5 at HP5 ⊢
  have CC := hd (d_string s _ out _ (t3 d ts) _ sv5 d.street _ V5 HP5.out.t.dec hout HRM.out (by omega) HE6.out)
  unfold encS at CC
  go_upto_region 9 with (go_at_call 28; refine CC.out.mono ?_; rintro e v6 ⟨rfl, ⟨sv6, g1⟩, g2⟩; have HU := hd (HP5.out.call g1 g2); have hc : v6.cell? ⟨Z, 6, none⟩ = some (.string ⟨#[]⟩) := (HU.out.t.cell 6).1; have hf := (HU.out.t.cell 6).2; clear g1 g2)
  have HP6 := hd (HU.out.poke 6 (.string ⟨d.street.toArray⟩))
  simp only [List.setIfInBounds_toArray, List.set_cons_zero, List.set_cons_succ] at HP6
  clear hc hf HU CC HP5
  generalize v6.setCell ⟨Z, 6, none⟩ (.string ⟨d.street.toArray⟩) = V6 at HP6 ⊢
  have CC := hd (d_cards s _ out _ (t4 d ts) _ sv6 d.eboard _ V6 HP6.out.t.dec hout HOK.out.eboard HE7.out)
  go_upto_region 10 with (go_at_call 32; refine CC.out.mono ?_; rintro e v7 ⟨vv, rfl, N7, n1, ⟨sv7, g1⟩, g2, g3⟩; obtain ⟨x7, y7, z7, ho⟩ := cards_form g3; subst ho; have HU := hd (HP6.out.callNew n1 g1 g2 g3 (stay_cards (fun i hi => .inr hi) _ _)); have hc : v7.cell? ⟨Z, 7, none⟩ = some (.slice none 0 0) := (HU.out.t.cell 7).1; have hf := (HU.out.t.cell 7).2; have HN7 : Hid (∀ k, N7 k → w.heap.size < k) := (fun k hk => Nat.lt_of_lt_of_le HWA.out (Nat.le_trans HP6.out.t.fr.size (n1 k hk).1)); clear g1 g2)
  have HP7 := hd (HU.out.poke 7 (.slice x7 y7 z7))
  simp only [List.setIfInBounds_toArray, List.set_cons_zero, List.set_cons_succ] at HP7
  clear hc hf HU CC HP6
  generalize v7.setCell ⟨Z, 7, none⟩ (.slice x7 y7 z7) = V7 at HP7 ⊢
  have CC := hd (d_int s _ out _ (t4 d ts) _ sv7 d.place _ V7 HP7.out.t.dec hout HOK.out.place HE8.out)
  go_upto_region 11 with (go_at_call 31; refine CC.out.mono ?_; rintro e v8 ⟨rfl, ⟨sv8, g1⟩, g2⟩; have HU := hd (HP7.out.call g1 g2); have hc : v8.cell? ⟨Z, 8, none⟩ = some (.int .i64 0) := (HU.out.t.cell 8).1; have hf := (HU.out.t.cell 8).2; clear g1 g2)
  have HP8 := hd (HU.out.poke 8 (.int .i64 d.place))
  simp only [List.setIfInBounds_toArray, List.set_cons_zero, List.set_cons_succ] at HP8
  clear hc hf HU CC HP7
  generalize v8.setCell ⟨Z, 8, none⟩ (.int .i64 d.place) = V8 at HP8 ⊢
  have CC := hd (d_int s _ out _ (t4 d ts) _ sv8 d.hand _ V8 HP8.out.t.dec hout HOK.out.hand HE9.out)
  go_upto_region 12 with (go_at_call 31; refine CC.out.mono ?_; rintro e v9 ⟨rfl, ⟨sv9, g1⟩, g2⟩; have HU := hd (HP8.out.call g1 g2); have hc : v9.cell? ⟨Z, 13, none⟩ = some (.int .i64 0) := (HU.out.t.cell 13).1; have hf := (HU.out.t.cell 13).2; clear g1 g2)
  have HP9 := hd (HU.out.poke 13 (.int .i64 d.hand))
  simp only [List.setIfInBounds_toArray, List.set_cons_zero, List.set_cons_succ] at HP9
  clear hc hf HU CC HP8
  generalize v9.setCell ⟨Z, 13, none⟩ (.int .i64 d.hand) = V9 at HP9 ⊢
  have CC := hd (d_int s _ out _ (t4 d ts) _ sv9 d.sb _ V9 HP9.out.t.dec hout HOK.out.sb HE10.out)
  go_upto_region 13 with (go_at_call 31; refine CC.out.mono ?_; rintro e v10 ⟨rfl, ⟨sv10, g1⟩, g2⟩; have HU := hd (HP9.out.call g1 g2); have hc : v10.cell? ⟨Z, 14, none⟩ = some (.int .i64 0) := (HU.out.t.cell 14).1; have hf := (HU.out.t.cell 14).2; clear g1 g2)
  have HP10 := hd (HU.out.poke 14 (.int .i64 d.sb))
  simp only [List.setIfInBounds_toArray, List.set_cons_zero, List.set_cons_succ] at HP10
  clear hc hf HU CC HP9
  generalize v10.setCell ⟨Z, 14, none⟩ (.int .i64 d.sb) = V10 at HP10 ⊢
  have CC := hd (d_int s _ out _ (t4 d ts) _ sv10 d.bb _ V10 HP10.out.t.dec hout HOK.out.bb HE11.out)
  go_upto_region 14 with (go_at_call 31; refine CC.out.mono ?_; rintro e v11 ⟨rfl, ⟨sv11, g1⟩, g2⟩; have HU := hd (HP10.out.call g1 g2); have hc : v11.cell? ⟨Z, 15, none⟩ = some (.int .i64 0) := (HU.out.t.cell 15).1; have hf := (HU.out.t.cell 15).2; clear g1 g2)
  have HP11 := hd (HU.out.poke 15 (.int .i64 d.bb))
  simp only [List.setIfInBounds_toArray, List.set_cons_zero, List.set_cons_succ] at HP11
  clear hc hf HU CC HP10
  generalize v11.setCell ⟨Z, 15, none⟩ (.int .i64 d.bb) = V11 at HP11 ⊢
  have CC := hd (d_int s _ out _ (t4 d ts) _ sv11 d.ante _ V11 HP11.out.t.dec hout HOK.out.ante HE12.out)
  go_upto_region 15 with (go_at_call 31; refine CC.out.mono ?_; rintro e v12 ⟨rfl, ⟨sv12, g1⟩, g2⟩; have HU := hd (HP11.out.call g1 g2); have hc : v12.cell? ⟨Z, 16, none⟩ = some (.int .i64 0) := (HU.out.t.cell 16).1; have hf := (HU.out.t.cell 16).2; clear g1 g2)
  have HP12 := hd (HU.out.poke 16 (.int .i64 d.ante))
  simp only [List.setIfInBounds_toArray, List.set_cons_zero, List.set_cons_succ] at HP12
  clear hc hf HU CC HP11
  generalize v12.setCell ⟨Z, 16, none⟩ (.int .i64 d.ante) = V12 at HP12 ⊢
  have CC := hd (d_string s _ out _ (t4 d ts) _ sv12 d.tstreet _ V12 HP12.out.t.dec hout HRM.out (by omega) HE13.out)
  unfold encS at CC
  go_upto_region 16 with (go_at_call 28; refine CC.out.mono ?_; rintro e v13 ⟨rfl, ⟨sv13, g1⟩, g2⟩; have HU := hd (HP12.out.call g1 g2); have hc : v13.cell? ⟨Z, 17, none⟩ = some (.string ⟨#[]⟩) := (HU.out.t.cell 17).1; have hf := (HU.out.t.cell 17).2; clear g1 g2)
  have HP13 := hd (HU.out.poke 17 (.string ⟨d.tstreet.toArray⟩))
  simp only [List.setIfInBounds_toArray, List.set_cons_zero, List.set_cons_succ] at HP13
  clear hc hf HU CC HP12
  generalize v13.setCell ⟨Z, 17, none⟩ (.string ⟨d.tstreet.toArray⟩) = V13 at HP13 ⊢
  have CC := hd (d_int s _ out _ (t5 d ts) _ sv13 d.button _ V13 HP13.out.t.dec hout HOK.out.button HE14.out)
  go_upto_region 17 with (go_at_call 31; refine CC.out.mono ?_; rintro e v14 ⟨rfl, ⟨sv14, g1⟩, g2⟩; have HU := hd (HP13.out.call g1 g2); have hc : v14.cell? ⟨Z, 18, none⟩ = some (.int .i64 0) := (HU.out.t.cell 18).1; have hf := (HU.out.t.cell 18).2; clear g1 g2)
  have HP14 := hd (HU.out.poke 18 (.int .i64 d.button))
  simp only [List.setIfInBounds_toArray, List.set_cons_zero, List.set_cons_succ] at HP14
  clear hc hf HU CC HP13
  generalize v14.setCell ⟨Z, 18, none⟩ (.int .i64 d.button) = V14 at HP14 ⊢
  have CC := hd (d_cards s _ out _ (t5 d ts) _ sv14 d.board _ V14 HP14.out.t.dec hout HOK.out.board HE15.out)
  go_upto_region 18 with (go_at_call 32; refine CC.out.mono ?_; rintro e v15 ⟨vv, rfl, N15, n1, ⟨sv15, g1⟩, g2, g3⟩; obtain ⟨x15, y15, z15, ho⟩ := cards_form g3; subst ho; have HU := hd (HP14.out.callNew n1 g1 g2 g3 (stay_cards (fun i hi => .inr hi) _ _)); have hc : v15.cell? ⟨Z, 19, none⟩ = some (.slice none 0 0) := (HU.out.t.cell 19).1; have hf := (HU.out.t.cell 19).2; have HN15 : Hid (∀ k, N15 k → w.heap.size < k) := (fun k hk => Nat.lt_of_lt_of_le HWA.out (Nat.le_trans HP14.out.t.fr.size (n1 k hk).1)); clear g1 g2)
  have HP15 := hd (HU.out.poke 19 (.slice x15 y15 z15))
  simp only [List.setIfInBounds_toArray, List.set_cons_zero, List.set_cons_succ] at HP15
  clear hc hf HU CC HP14
  generalize v15.setCell ⟨Z, 19, none⟩ (.slice x15 y15 z15) = V15 at HP15 ⊢
  have CC := hd (d_int s _ out _ (t5 d ts) _ sv15 d.pot _ V15 HP15.out.t.dec hout HOK.out.pot HE16.out)
  go_upto_region 19 with (go_at_call 31; refine CC.out.mono ?_; rintro e v16 ⟨rfl, ⟨sv16, g1⟩, g2⟩; have HU := hd (HP15.out.call g1 g2); have hc : v16.cell? ⟨Z, 20, none⟩ = some (.int .i64 0) := (HU.out.t.cell 20).1; have hf := (HU.out.t.cell 20).2; clear g1 g2)
  have HP16 := hd (HU.out.poke 20 (.int .i64 d.pot))
  simp only [List.setIfInBounds_toArray, List.set_cons_zero, List.set_cons_succ] at HP16
  clear hc hf HU CC HP15
  generalize v16.setCell ⟨Z, 20, none⟩ (.int .i64 d.pot) = V16 at HP16 ⊢
  have CC := hd (d_opt s _ out _ (t5 d ts) _ sv16 d.toAct _ V16 HP16.out.t.dec hout HOK.out.toAct HE17.out)
  go_upto_region 20 with (go_at_call 30; refine CC.out.mono ?_; rintro e v17 ⟨vv, rfl, N17, n1, ⟨sv17, g1⟩, g2, g3⟩; obtain ⟨o17, ho⟩ := opt_form g3; subst ho; have HU := hd (HP16.out.callNew n1 g1 g2 g3 (stay_opt (fun i hi => .inr hi) _ _)); have hc : v17.cell? ⟨Z, 21, none⟩ = some (.pointer none) := (HU.out.t.cell 21).1; have hf := (HU.out.t.cell 21).2; have HN17 : Hid (∀ k, N17 k → w.heap.size < k) := (fun k hk => Nat.lt_of_lt_of_le HWA.out (Nat.le_trans HP16.out.t.fr.size (n1 k hk).1)); clear g1 g2)
  have HP17 := hd (HU.out.poke 21 (.pointer o17))
  simp only [List.setIfInBounds_toArray, List.set_cons_zero, List.set_cons_succ] at HP17
  clear hc hf HU CC HP16
  generalize v17.setCell ⟨Z, 21, none⟩ (.pointer o17) = V17 at HP17 ⊢
  have HBI : Hid (∀ i, B i → ((((((R i ∨ i = G) ∨ N3 i) ∨ N7 i) ∨ N15 i) ∨ N17 i) ∨ i = Z)) := fun i hi => .inl (.inl (.inl (.inl (.inl (.inl (HB.out i hi))))))
  have CC := hd (d_seats s _ B out _ (t5 d ts) _ sv17 (.slice ab before.length cb) d.seats before _ V17 HP17.out.t.dec hout HRM.out HBI.out (HBF.out.kept (fun i hi => (HP17.out.t.fr.block i (.inl (HB.out i hi))).trans (HF0.out.block i (HB.out i hi)))) hbn HOK.out.seats (by omega) HE18.out)
  go_upto_region 21 with (go_at_call 33; refine CC.out.mono ?_; rintro e v18 ⟨vv, rfl, N18, n1, ⟨sv18, g1⟩, g2, g3⟩; obtain ⟨x18, y18, z18, ho⟩ := seats_form g3; subst ho; have HU := hd (HP17.out.callNew n1 g1 g2 g3 (stay_seats (fun i hi => by rcases hi with hi | hi; exact .inl (.inl (.inl (.inl (.inl (.inl (HB.out i hi)))))); exact .inr hi) _ _)); have hc : v18.cell? ⟨Z, 22, none⟩ = some (.slice none 0 0) := (HU.out.t.cell 22).1; have hf := (HU.out.t.cell 22).2; have HN18 : Hid (∀ k, N18 k → w.heap.size < k) := (fun k hk => Nat.lt_of_lt_of_le HWA.out (Nat.le_trans HP17.out.t.fr.size (n1 k hk).1)); clear g1 g2)
  have HP18 := hd (HU.out.poke 22 (.slice x18 y18 z18))
  simp only [List.setIfInBounds_toArray, List.set_cons_zero, List.set_cons_succ] at HP18
  clear hc hf HU CC HP17
  generalize v18.setCell ⟨Z, 22, none⟩ (.slice x18 y18 z18) = V18 at HP18 ⊢
  have CC := hd (d_flag s _ out _ (t6 d before ts) _ sv18 d.resync _ V18 HP18.out.t.dec hout HE19.out)
  go_upto_region 22 with (go_at_call 34; refine CC.out.mono ?_; rintro e v19 ⟨rfl, ⟨sv19, g1⟩, g2⟩; have HU := hd (HP18.out.call g1 g2); have hc : v19.cell? ⟨Z, 23, none⟩ = some (.bool false) := (HU.out.t.cell 23).1; have hf := (HU.out.t.cell 23).2; clear g1 g2)
  have HP19 := hd (HU.out.poke 23 (.bool d.resync))
  simp only [List.setIfInBounds_toArray, List.set_cons_zero, List.set_cons_succ] at HP19
  clear hc hf HU CC HP18
  generalize v19.setCell ⟨Z, 23, none⟩ (.bool d.resync) = V19 at HP19 ⊢
  have HRZ := hd (HP19.out.t.range (cs := [.string ⟨d.type.toArray⟩, .int .i64 d.seq, .string ⟨d.kind.toArray⟩, .pointer o3, .string ⟨d.action.toArray⟩, .int .i64 d.amount, .string ⟨d.street.toArray⟩, .slice x7 y7 z7, .int .i64 d.place, .bool false, .string ⟨#[]⟩, .int .i64 0, .slice none 0 0, .int .i64 d.hand, .int .i64 d.sb, .int .i64 d.bb, .int .i64 d.ante, .string ⟨d.tstreet.toArray⟩, .int .i64 d.button, .slice x15 y15 z15, .int .i64 d.pot, .pointer o17, .slice x18 y18 z18, .bool d.resync]) rfl)
  have HTH : Hid (V19.there G 0 24) := there_of ((HP19.out.t.fr.block G (.inr rfl)).trans HRB.out) (Nat.le_refl _)
  have HON : Hid (([.string ⟨d.type.toArray⟩, .int .i64 d.seq, .string ⟨d.kind.toArray⟩, .pointer o3, .string ⟨d.action.toArray⟩, .int .i64 d.amount, .string ⟨d.street.toArray⟩, .slice x7 y7 z7, .int .i64 d.place, .bool false, .string ⟨#[]⟩, .int .i64 0, .slice none 0 0, .int .i64 d.hand, .int .i64 d.sb, .int .i64 d.bb, .int .i64 d.ante, .string ⟨d.tstreet.toArray⟩, .int .i64 d.button, .slice x15 y15 z15, .int .i64 d.pot, .pointer o17, .slice x18 y18 z18, .bool d.resync] : List Value).toArray.all (·.oneCell') = true) := by show _ = _; simp [Value.oneCell']
  generalize hcl : ([.string ⟨d.type.toArray⟩, .int .i64 d.seq, .string ⟨d.kind.toArray⟩, .pointer o3, .string ⟨d.action.toArray⟩, .int .i64 d.amount, .string ⟨d.street.toArray⟩, .slice x7 y7 z7, .int .i64 d.place, .bool false, .string ⟨#[]⟩, .int .i64 0, .slice none 0 0, .int .i64 d.hand, .int .i64 d.sb, .int .i64 d.bb, .int .i64 d.ante, .string ⟨d.tstreet.toArray⟩, .int .i64 d.button, .slice x15 y15 z15, .int .i64 d.pot, .pointer o17, .slice x18 y18 z18, .bool d.resync] : List Value) = cl at HRZ HON
  have HCL := hd hcl
  have HSI : Hid ((Try.prog.info? 50).map (·.size) = some cl.length) := by rw [← hcl]; exact Try.siz50
  have HTH2 : Hid (V19.there G 0 cl.toArray.size) := by rw [← hcl]; exact HTH.out
  clear hcl
  go_wp2_with (first
    | (refine wpList_store_mid2 rfl 50 _ _ rfl G 0 cl.toArray rfl rfl HTH2.out HSI.out HON.out ?_; intro wz HWZ)
    | (refine wpList_load_mid rfl 50 _ rfl Z 0 rfl cl _ HRZ.out Try.underlying50 rfl HSI.out ?_))
  (try simp only [Exit.inBlock, Exit.then])
  have hrz : wz.rangeAt G 0 cl := by
    rw [HWZ.out]
    exact World.rangeAt_setCells_same _ _ _ _ (by have := HTH2.out; simpa using this)
  refine bodyPost_ret (results_cell (t := 4) (ty := 50) (b := G) (v := .agg cl.toArray) (by kernel_rfl) _ _ _ rfl (run_loadVar_mid wz G 0 50 cl _ hrz Try.underlying50 rfl HSI.out)) rfl ?_
  have hG := HG.out
  have hset : ∀ k, k ≠ G → wz.heap[k]? = V19.heap[k]? := fun k hk => by rw [HWZ.out]; exact setCells_other _ _ _ _ _ hk
  have hsz : wz.heap.size = V19.heap.size := by rw [HWZ.out]; exact (setCells_rest _ _ _ _).2.2.2
  have hRG : ∀ i, R i → i ≠ G := fun i hi => by have := HH.out.base i hi; omega
  obtain ⟨k18, k17, k15, k7, k3, _⟩ := HP19.out.data
  have hdec1 : Dec V19 s (fun i => (((((R i ∨ i = G) ∨ N3 i) ∨ N7 i) ∨ N15 i) ∨ N17 i) ∨ N18 i) out _ _ _ _ := HP19.out.t.dec.less (HP19.out.t.bytes.more (fun i hi => .inl (.inl (.inl (.inl (.inl (.inl hi))))))) (fun i hi => .inl hi)
  have hdec2 := hdec1.poke (w' := wz) (R0 := R) (g := G) HP19.out.t.bytes (fun i hi => .inl (.inl (.inl (.inl (.inl (.inl hi)))))) (fun hi => hRG G hi rfl) (.inl (.inl (.inl (.inl (.inl (.inr rfl)))))) hset hsz
  have hfr : Fr R w wz := (HF0.out.trans (HP19.out.t.fr.less (fun i hi => .inl hi))).trans ⟨by rw [HWZ.out]; exact (setCells_rest _ _ _ _).1, by rw [HWZ.out]; exact (setCells_rest _ _ _ _).2.1, by rw [HWZ.out]; exact (setCells_rest _ _ _ _).2.2.1, by rw [hsz]; exact Nat.le_refl _, fun i hi => hset i (hRG i hi)⟩
  have hn3 : ∀ i, N3 i → i ≠ G := fun i hi => by have := HN3.out i hi; omega
  have hn7 : ∀ i, N7 i → i ≠ G := fun i hi => by have := HN7.out i hi; omega
  have hn15 : ∀ i, N15 i → i ≠ G := fun i hi => by have := HN15.out i hi; omega
  have hn17 : ∀ i, N17 i → i ≠ G := fun i hi => by have := HN17.out i hi; omega
  have hn18 : ∀ i, N18 i → i ≠ G := fun i hi => by have := HN18.out i hi; omega
  refine ⟨⟨d, false, [], 0, none, .pointer o3, .slice x7 y7 z7, .slice none 0 0, .slice x15 y15 z15, .pointer o17, .slice x18 y18 z18⟩, by rw [← HCL.out]; rfl, rfl, fun i => ((((i = G ∨ N3 i) ∨ N7 i) ∨ N15 i) ∨ N17 i) ∨ N18 i, fun i hi => ⟨?_, ?_⟩, ⟨_, hdec2.same (fun i => ?_)⟩, hfr, ?_⟩
  · rcases hi with ((((hi | hi) | hi) | hi) | hi) | hi
    · omega
    · exact Nat.le_of_lt (HN3.out i hi)
    · exact Nat.le_of_lt (HN7.out i hi)
    · exact Nat.le_of_lt (HN15.out i hi)
    · exact Nat.le_of_lt (HN17.out i hi)
    · exact Nat.le_of_lt (HN18.out i hi)
  · refine hdec2.base i ?_
    rcases hi with ((((hi | hi) | hi) | hi) | hi) | hi <;> simp [hi]
  · constructor
    · intro hi
      rcases hi with (((((hi | hi) | hi) | hi) | hi) | hi) | hi <;> simp [hi]
    · intro hi
      rcases hi with hi | ((((hi | hi) | hi) | hi) | hi) | hi <;> simp [hi]
  · exact ⟨(k3.kept (fun i hi => hset i (hn3 i hi))).more (fun i hi => .inr (by simp [hi])), (k7.kept (fun i hi => hset i (hn7 i hi))).more (fun i hi => .inr (by simp [hi])), rfl, (k15.kept (fun i hi => hset i (hn15 i hi))).more (fun i hi => .inr (by simp [hi])), (k17.kept (fun i hi => hset i (hn17 i hi))).more (fun i hi => .inr (by simp [hi])),
      (k18.kept (fun i hi => hset i (by rcases hi with hi | hi; exact hRG i (HB.out i hi); exact hn18 i hi))).more (fun i hi => by rcases hi with hi | hi; exact .inl hi; exact .inr (by simp [hi]))⟩
end Go.Proofs.Qxb6618929a
