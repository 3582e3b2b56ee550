/-
  zzBuildState.
-/
import Derived.Test.Qxb6618929aZin
import Derived.Deep.CutBlock
import Derived.Deep.DeepCutAuto
namespace Go.Proofs.Qxb6618929a
open Go Go.RowKit

theorem qn48z (W : World) (n c n' c' : Nat) : (binOp .neq 48 (.slice none n c) (.slice none n' c')).run Try.prog W = .ok (.bool false) W := run_neq_slice_nil_any W _ _ none n c n' c' Try.underlying48
theorem qn48s (W : World) (a : Addr) (n c n' c' : Nat) : (binOp .neq 48 (.slice (some a) n c) (.slice none n' c')).run Try.prog W = .ok (.bool true) W := run_neq_slice_nil_any W _ _ (some a) n c n' c' Try.underlying48
theorem qn46z (W : World) (n c n' c' : Nat) : (binOp .neq 46 (.slice none n c) (.slice none n' c')).run Try.prog W = .ok (.bool false) W := run_neq_slice_nil_any W _ _ none n c n' c' Try.underlying46
theorem qn46s (W : World) (a : Addr) (n c n' c' : Nat) : (binOp .neq 46 (.slice (some a) n c) (.slice none n' c')).run Try.prog W = .ok (.bool true) W := run_neq_slice_nil_any W _ _ (some a) n c n' c' Try.underlying46
theorem qn46 (W : World) (a : Option Addr) (n c n' c' : Nat) : (binOp .neq 46 (.slice a n c) (.slice none n' c')).run Try.prog W = .ok (.bool (!a.isNone)) W := run_neq_slice_nil_any W _ _ a n c n' c' Try.underlying46
attribute [local go_sem] qn48z qn48s qn46z qn46s

theorem Try.info101 : (Try.prog.info? 101).map (fun i => (i.zero, i.size, i.bytes)) = some (some (.agg #[.string ⟨#[]⟩, .int .i64 0, .int .i64 0, .int .i64 0]), 4, 40) := by kernel_rfl
theorem Try.size101 : (Try.prog.info? 101).map (·.size) = some 4 := by kernel_rfl

/-- A store into a row, the world behind it under a name. -/
theorem wpList_store_mid2 {P : Program} {ops : Array Oper} {rest : List Oper} {op : Oper} {a : Act} {w : World} {Q : Exit → Act → World → Prop} (hgd : op.guard = none) (ty : TypeId) (x y : Operand) (ho : op.op = .store ty x y)
    (b o : Nat) (cells : Array Value) (hx : a.eval x = .pointer (some ⟨b, o, none⟩)) (hy : a.eval y = .agg cells)
    (ht : w.there b o cells.size) (hi : (P.info? ty).map (·.size) = some cells.size) (h1 : cells.all (·.oneCell') = true)
    (h : ∀ w', Hid (w' = w.setCells b o cells.toList) → wpList P ops Q rest (a.put op.dst undef) w') : wpList P ops Q (op :: rest) a w :=
  wpList_store_mid hgd ty x y ho b o cells hx hy ht hi h1 (h _ rfl)

/-- The row of legal moves behind k rounds. -/
def LegalInv (B : Nat) (W0 wr : World) (g n k : Nat) (ls : List LegalD) : Prop :=
  Below B W0 wr ∧ g < wr.heap.size ∧ (∃ arr : Array Value, wr.heap[g]? = some (.cells arr 101 (0, 0)) ∧ arr.size = n * 4) ∧ ∀ j, j < k → ∃ l, ls[j]? = some l ∧ wr.rangeAt g (j * 4) l.cells

theorem range_below {B : Nat} {w w' : World} (h : Below B w w') {b o : Nat} {cs : List Value} (hb : b < B) (hr : w.rangeAt b o cs) : w'.rangeAt b o cs := fun j v hv => (h.cell (p := ⟨b, o + j, none⟩) hb).trans (hr j v hv)

theorem LegalInv.step {B : Nat} {W0 wr : World} {g n k : Nat} {ls : List LegalD} {l : LegalD} {o : Obj} (h : LegalInv B W0 wr g n k ls) (hB : B ≤ g) (hk : k < n) (hl : ls[k]? = some l) :
    (wr.alloc o).there g (k * 4) 4 ∧ LegalInv B W0 ((wr.alloc o).setCells g (k * 4) l.cells) g n (k + 1) ls := by
  obtain ⟨h1, h0, ⟨arr, h2, h3⟩, h4⟩ := h
  have h2' : (wr.alloc o).heap[g]? = some (.cells arr 101 (0, 0)) := (Below.heap_alloc wr o g h0).trans h2
  have hth : (wr.alloc o).there g (k * 4) 4 := there_of h2' (by omega)
  refine ⟨hth, below_setCells (h1.alloc (Nat.le_trans hB (Nat.le_of_lt h0)) o) hB, by rw [(setCells_rest g _ _ _).2.2.2]; simp; omega, ?_, fun j hj => ?_⟩
  · obtain ⟨arr', p1, p2⟩ := setCells_block g 101 l.cells (k * 4) _ arr h2'
    exact ⟨arr', p1, by rw [p2, h3]⟩
  · by_cases e : j = k
    · subst e
      exact ⟨l, hl, World.rangeAt_setCells_same _ _ _ _ hth⟩
    · obtain ⟨l', q1, q2⟩ := h4 j (by omega)
      refine ⟨l', q1, World.rangeAt_setCells_apart ?_ _ _ _ (.inr (.inl (by show j * 4 + 4 ≤ k * 4; omega)))⟩
      exact range_below ((Below.refl _ _).alloc (Nat.le_refl _) o) h0 q2

theorem turn_new {B : Nat} {W0 wr : World} (hB : W0.heap.size = B) (hb : Below B W0 wr) (token : List UInt8) (left : Int) (vL : Value) (legal : Option (List LegalD)) (hL : LegalAt wr (Fresh W0 wr) vL legal) :
    TurnAt (wr.alloc (.cells #[encS token, .int .i64 left, vL] 99)) (Fresh W0 (wr.alloc (.cells #[encS token, .int .i64 left, vL] 99))) (.pointer (some ⟨wr.heap.size, 0, none⟩)) (some ⟨token, left, legal⟩) ∧ Below B W0 (wr.alloc (.cells #[encS token, .int .i64 left, vL] 99)) := by
  subst hB
  have hsz := hb.size
  have hal : Below wr.heap.size wr (wr.alloc (.cells #[encS token, .int .i64 left, vL] 99)) := (Below.refl _ _).alloc (Nat.le_refl _) _
  refine ⟨⟨wr.heap.size, vL, rfl, ⟨hsz, by simp⟩, fun j v hv => ?_, ?_⟩, hb.alloc hsz _⟩
  · rw [Nat.zero_add, cell_of_row _ wr.heap.size j _ 99 (0, 0) (heap_alloc_new wr _)]
    simpa using hv
  · exact (hL.kept (Below.sameOf hal (fun k hk => hk.2))).more (fun k hk => ⟨hk.1, by have := hk.2; simp; omega⟩)

theorem legal_made {B : Nat} {W0 wr : World} {g n : Nat} {ls : List LegalD} (hB : W0.heap.size = B) (h : LegalInv B W0 wr g n ls.length ls) (hg : B ≤ g) (hn : ls.length = n) : LegalAt wr (Fresh W0 wr) (.slice (some ⟨g, 0, none⟩) n n) (some ls) := by
  subst hn
  subst hB
  obtain ⟨h1, h0, _, h4⟩ := h
  refine ⟨⟨g, 0, none⟩, ls.length, rfl, ?_⟩
  by_cases e : 0 < ls.length
  · exact .inr ⟨e, g, 0, rfl, ⟨hg, h0⟩, fun i hi => by
      obtain ⟨l, p1, p2⟩ := h4 i hi
      exact ⟨l, p1, by rw [Nat.zero_add]; exact p2⟩⟩
  · exact .inl (by omega)

def seatCells (d : SeatD) (cv : Value) : List Value := [.int .i64 d.seat, encS d.name, .int .i64 d.stack, .int .i64 d.bet, .bool d.folded, .bool d.allIn, cv, .bool d.conn]
theorem seat_range {w : World} {R : Nat → Prop} {b o : Nat} {d : SeatD} {cv : Value} (h : SeatAt w R b o d cv) : w.rangeAt b o (seatCells d cv) := fun j v hv => by
  have hj : j < 8 := (List.getElem?_eq_some_iff.1 hv).1
  match j, hj, hv with
  | 0, _, hv => rw [← Option.some.inj hv]; exact h.c0
  | 1, _, hv => rw [← Option.some.inj hv]; exact h.c1
  | 2, _, hv => rw [← Option.some.inj hv]; exact h.c2
  | 3, _, hv => rw [← Option.some.inj hv]; exact h.c3
  | 4, _, hv => rw [← Option.some.inj hv]; exact h.c4
  | 5, _, hv => rw [← Option.some.inj hv]; exact h.c5
  | 6, _, hv => rw [← Option.some.inj hv]; exact h.c6
  | 7, _, hv => rw [← Option.some.inj hv]; exact h.c7
theorem seat_of_range {w : World} {R : Nat → Prop} {b o : Nat} {d : SeatD} {cv : Value} (hr : w.rangeAt b o (seatCells d cv)) (hb : R b) (hc : CardsAt w R cv d.cards) : SeatAt w R b o d cv :=
  ⟨hb, hr 0 _ rfl, hr 1 _ rfl, hr 2 _ rfl, hr 3 _ rfl, hr 4 _ rfl, hr 5 _ rfl, hr 6 _ rfl, hr 7 _ rfl, hc⟩

/-- The row of seats behind k rounds. -/
def SeatsInv (W1 wr : World) (n k : Nat) (ds : List SeatD) : Prop :=
  Below W1.heap.size W1 wr ∧ W1.heap.size < wr.heap.size ∧ (∃ arr : Array Value, wr.heap[W1.heap.size]? = some (.cells arr 103 (0, 0)) ∧ arr.size = n * 8) ∧
    ∀ j, j < k → ∃ d cv, ds[j]? = some d ∧ wr.rangeAt W1.heap.size (j * 8) (seatCells d cv) ∧ CardsAt wr (fun i => W1.heap.size < i ∧ i < wr.heap.size) cv d.cards

theorem SeatsInv.step {W1 wr w2 : World} {n k : Nat} {ds : List SeatD} {d : SeatD} {cv : Value} {o : Obj} (h : SeatsInv W1 wr n k ds) (hk : k < n) (hd : ds[k]? = some d) (hb : Below (wr.heap.size + 1) (wr.alloc o) w2) (hc : CardsAt w2 (fun i => wr.heap.size < i ∧ i < w2.heap.size) cv d.cards) :
    w2.there W1.heap.size (k * 8) 8 ∧ SeatsInv W1 (w2.setCells W1.heap.size (k * 8) (seatCells d cv)) n (k + 1) ds := by
  obtain ⟨h1, h0, ⟨arr, h2, h3⟩, h4⟩ := h
  have hsz : wr.heap.size + 1 ≤ w2.heap.size := by have := hb.size; simp at this; omega
  have hb2 : Below wr.heap.size wr w2 := ((Below.refl _ _).alloc (Nat.le_refl _) o).trans (hb.mono (Nat.le_succ _))
  have h2' : w2.heap[W1.heap.size]? = some (.cells arr 103 (0, 0)) := (hb2.block _ h0).trans h2
  have hth : w2.there W1.heap.size (k * 8) 8 := there_of h2' (by omega)
  have hsame : ∀ R : Nat → Prop, (∀ i, R i → W1.heap.size < i) → Same R w2 (w2.setCells W1.heap.size (k * 8) (seatCells d cv)) := fun R hR i hi => setCells_other _ _ _ _ _ (by have := hR i hi; omega)
  have hss : (w2.setCells W1.heap.size (k * 8) (seatCells d cv)).heap.size = w2.heap.size := (setCells_rest _ _ _ _).2.2.2
  refine ⟨hth, below_setCells (h1.trans (hb2.mono (Nat.le_of_lt h0))) (Nat.le_refl _), by rw [hss]; omega, ?_, fun j hj => ?_⟩
  · obtain ⟨arr', p1, p2⟩ := setCells_block W1.heap.size 103 (seatCells d cv) (k * 8) _ arr h2'
    exact ⟨arr', p1, by rw [p2, h3]⟩
  · by_cases e : j = k
    · subst e
      exact ⟨d, cv, hd, World.rangeAt_setCells_same _ _ _ _ hth, (hc.kept (hsame _ (fun i hi => by omega))).more (fun i hi => ⟨by omega, by rw [hss]; exact hi.2⟩)⟩
    · obtain ⟨d', cv', q1, q2, q3⟩ := h4 j (by omega)
      refine ⟨d', cv', q1, World.rangeAt_setCells_apart ?_ _ _ _ (.inr (.inl (by show j * 8 + 8 ≤ k * 8; omega))), ?_⟩
      · exact range_below hb2 h0 q2
      · exact ((q3.kept (Below.sameOf hb2 (fun i hi => hi.2))).kept (hsame _ (fun i hi => hi.1))).more (fun i hi => ⟨hi.1, by rw [hss]; omega⟩)

theorem seats_made {W1 wr : World} {n : Nat} {ds : List SeatD} (h : SeatsInv W1 wr n ds.length ds) (hn : ds.length = n) : SeatsAt wr (Fresh W1 wr) (.slice (some ⟨W1.heap.size, 0, none⟩) n n) (some ds) := by
  subst hn
  obtain ⟨h1, h0, _, h4⟩ := h
  refine ⟨⟨W1.heap.size, 0, none⟩, ds.length, rfl, ?_⟩
  by_cases e : 0 < ds.length
  · exact .inr ⟨e, W1.heap.size, 0, rfl, fun i hi => by
      obtain ⟨d, cv, p1, p2, p3⟩ := h4 i hi
      exact ⟨d, cv, p1, by rw [Nat.zero_add]; exact seat_of_range p2 ⟨Nat.le_refl _, h0⟩ (p3.more (fun i hi => ⟨Nat.le_of_lt hi.1, hi.2⟩))⟩⟩
  · exact .inl (by omega)

theorem info103_parts : ∃ i, Try.prog.info? 103 = some i ∧ i.zero = some (.agg #[.int .i64 0, .string ⟨#[]⟩, .int .i64 0, .int .i64 0, .bool false, .bool false, .slice none 0 0, .bool false]) ∧ i.size = 8 ∧ i.bytes ≤ 1024 := by
  have h : (Try.prog.info? 103).map (fun i => (i.zero, i.size, decide (i.bytes ≤ 1024))) = some (some (.agg #[.int .i64 0, .string ⟨#[]⟩, .int .i64 0, .int .i64 0, .bool false, .bool false, .slice none 0 0, .bool false]), 8, true) := by kernel_rfl
  cases hq : Try.prog.info? 103 with
  | none => simp [hq] at h
  | some i =>
    simp only [hq, Option.map_some, Option.some.injEq, Prod.mk.injEq, decide_eq_true_eq] at h
    exact ⟨i, rfl, h.1, h.2.1, h.2.2⟩
theorem Try.size103 : (Try.prog.info? 103).map (·.size) = some 8 := by kernel_rfl
theorem seat_one (d : SeatD) (cv : Value) (h : cv.oneCell' = true) : (seatCells d cv).toArray.all (·.oneCell') = true := by
  simp [seatCells, encS, Value.oneCell']
  simpa [Value.oneCell'] using h
theorem cards_one {w : World} {R : Nat → Prop} {v : Value} {o : Option (List UInt8)} (h : CardsAt w R v o) : v.oneCell' = true := by
  cases o with
  | none => rw [show v = _ from h]; rfl
  | some cs => obtain ⟨a, cap, rfl, _⟩ := h; rfl

/-- What zzBuildState leaves. -/
def BuiltOut (w : World) (d : StateD) (turn : Option TurnD) (e : Ending) (w' : World) : Prop :=
  ∃ g vES vEB vT vB vTA vS, e = .returned (.pointer (some ⟨g, 0, none⟩)) ∧ StateAt w' (Fresh w w') g d vES vEB vT vB vTA vS ∧ TurnAt w' (Fresh w w') vT turn ∧ Below w.heap.size w w'
theorem fresh_up {w wa wi w7 : World} (ha : w.heap.size ≤ wa.heap.size) (hb : Below wi.heap.size wi w7) : ∀ k, Fresh wa wi k → Fresh w w7 k := fun _ hk => ⟨Nat.le_trans ha hk.1, Nat.lt_of_lt_of_le hk.2 hb.size⟩
theorem opt_up {w wa wi w7 : World} {v : Value} {o : Option Int} (h : OptAt wi (Fresh wa wi) v o) (ha : w.heap.size ≤ wa.heap.size) (hb : Below wi.heap.size wi w7) : OptAt w7 (Fresh w w7) v o := (h.kept (Below.sameOf hb (fun _ hk => hk.2))).more (fresh_up ha hb)
theorem cards_up {w wa wi w7 : World} {v : Value} {o : Option (List UInt8)} (h : CardsAt wi (Fresh wa wi) v o) (ha : w.heap.size ≤ wa.heap.size) (hb : Below wi.heap.size wi w7) : CardsAt w7 (Fresh w w7) v o := (h.kept (Below.sameOf hb (fun _ hk => hk.2))).more (fresh_up ha hb)
theorem seats_up {w wa wi w7 : World} {v : Value} {o : Option (List SeatD)} (h : SeatsAt wi (Fresh wa wi) v o) (ha : w.heap.size ≤ wa.heap.size) (hb : Below wi.heap.size wi w7) : SeatsAt w7 (Fresh w w7) v o := (h.kept (Below.sameOf hb (fun _ hk => hk.2))).more (fresh_up ha hb)
theorem turn_up {w wa wi w7 : World} {v : Value} {o : Option TurnD} (h : TurnAt wi (Fresh wa wi) v o) (ha : w.heap.size ≤ wa.heap.size) (hb : Below wi.heap.size wi w7) : TurnAt w7 (Fresh w w7) v o := (h.kept (Below.sameOf hb (fun _ hk => hk.2))).more (fresh_up ha hb)
theorem below_chain {wa wi w7 : World} (h1 : Below wa.heap.size wa wi) (h2 : Below wi.heap.size wi w7) : Below wa.heap.size wa w7 := h1.trans (h2.mono h1.size)
theorem opt_form {w : World} {R : Nat → Prop} {v : Value} {o : Option Int} (h : OptAt w R v o) : ∃ p, v = .pointer p := by
  cases o with
  | none => exact ⟨none, h⟩
  | some x => obtain ⟨a, h1, _⟩ := h; exact ⟨some a, h1⟩
theorem turn_form {w : World} {R : Nat → Prop} {v : Value} {o : Option TurnD} (h : TurnAt w R v o) : ∃ p, v = .pointer p := by
  cases o with
  | none => exact ⟨none, h⟩
  | some t => obtain ⟨g, vL, h1, _⟩ := h; exact ⟨some ⟨g, 0, none⟩, h1⟩
theorem cards_form {w : World} {R : Nat → Prop} {v : Value} {o : Option (List UInt8)} (h : CardsAt w R v o) : ∃ a n c, v = .slice a n c := by
  obtain ⟨ca, cc, hv, _⟩ := h.row
  exact ⟨ca, _, cc, hv⟩
theorem seats_form {w : World} {R : Nat → Prop} {v : Value} {o : Option (List SeatD)} (h : SeatsAt w R v o) : ∃ a n c, v = .slice a n c := by
  obtain ⟨ca, cc, hv, _⟩ := h.before
  exact ⟨ca, _, cc, hv⟩
/-- A state's cells. -/
def stateCells (d : StateD) (vES vEB vT vB vTA vS : Value) : List Value :=
  [encS d.type, .int .i64 d.seq, encS d.kind, vES, encS d.action, .int .i64 d.amount, encS d.street, vEB, .int .i64 d.place, vT, .int .i64 d.hand, .int .i64 d.sb, .int .i64 d.bb, .int .i64 d.ante, encS d.tstreet, .int .i64 d.button, vB, .int .i64 d.pot, vTA, vS, .bool d.resync]
theorem state_new {w W1 W2 w3 w4 w5 w6 : World} {d : StateD} {turn : Option TurnD} {vES vEB vT vB vTA vS : Value} (h0 : Below w.heap.size w W1) (hT : TurnAt W1 (Fresh w W1) vT turn) (h12 : Below W1.heap.size W1 W2) (hS : SeatsAt W2 (Fresh W1 W2) vS d.seats)
    (h23 : Below W2.heap.size W2 w3) (hES : OptAt w3 (Fresh W2 w3) vES d.eseat) (h34 : Below w3.heap.size w3 w4) (hEB : CardsAt w4 (Fresh w3 w4) vEB d.eboard) (h45 : Below w4.heap.size w4 w5) (hB : CardsAt w5 (Fresh w4 w5) vB d.board)
    (h56 : Below w5.heap.size w5 w6) (hTA : OptAt w6 (Fresh w5 w6) vTA d.toAct) :
    StateAt (w6.alloc (.cells (stateCells d vES vEB vT vB vTA vS).toArray 84)) (Fresh w (w6.alloc (.cells (stateCells d vES vEB vT vB vTA vS).toArray 84))) w6.heap.size d vES vEB vT vB vTA vS ∧
      TurnAt (w6.alloc (.cells (stateCells d vES vEB vT vB vTA vS).toArray 84)) (Fresh w (w6.alloc (.cells (stateCells d vES vEB vT vB vTA vS).toArray 84))) vT turn ∧ Below w.heap.size w (w6.alloc (.cells (stateCells d vES vEB vT vB vTA vS).toArray 84)) := by
  have h67 : Below w6.heap.size w6 (w6.alloc (.cells (stateCells d vES vEB vT vB vTA vS).toArray 84)) := (Below.refl _ _).alloc (Nat.le_refl _) _
  have b5 := below_chain h56 h67
  have b4 := below_chain h45 b5
  have b3 := below_chain h34 b4
  have b2 := below_chain h23 b3
  have b1 := below_chain h12 b2
  have b0 := below_chain h0 b1
  have s1 := h0.size
  have s2 := h12.size
  have s3 := h23.size
  have s4 := h34.size
  have s5 := h45.size
  have s6 := h56.size
  have hc : ∀ j v, (stateCells d vES vEB vT vB vTA vS)[j]? = some v → (w6.alloc (.cells (stateCells d vES vEB vT vB vTA vS).toArray 84)).cell? ⟨w6.heap.size, j, none⟩ = some v := fun j v hv => by
    rw [cell_of_row _ w6.heap.size j _ 84 (0, 0) (heap_alloc_new w6 _)]
    simpa using hv
  refine ⟨⟨⟨by omega, by simp⟩, hc 0 _ rfl, hc 1 _ rfl, hc 2 _ rfl, hc 3 _ rfl, hc 4 _ rfl, hc 5 _ rfl, hc 6 _ rfl, hc 7 _ rfl, hc 8 _ rfl, hc 10 _ rfl, hc 11 _ rfl, hc 12 _ rfl, hc 13 _ rfl, hc 14 _ rfl, hc 15 _ rfl, hc 16 _ rfl, hc 17 _ rfl, hc 18 _ rfl, hc 19 _ rfl, hc 20 _ rfl, hc 9 _ rfl, ?_, ?_, ?_, ?_, ?_⟩, ?_, b0⟩
  · exact opt_up hES (by omega) b3
  · exact cards_up hEB (by omega) b4
  · exact cards_up hB (by omega) b5
  · exact opt_up hTA (by omega) h67
  · exact seats_up hS (by omega) b2
  · exact turn_up hT (Nat.le_refl _) b1
end Go.Proofs.Qxb6618929a
