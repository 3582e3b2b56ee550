/-
  zzDecSeats: what is read where; what lies where.
-/
import Derived.Test.Qxb6618929aDec6
namespace Go.Proofs.Qxb6618929a
open Go Go.RowKit

/-! ### Plain -/
theorem app_split {k : Nat} {f : St → St} (h : Apps k f) (st : St) : f st = (st.1 ++ (f ([], st.2)).1, (f ([], st.2)).2) := by
  obtain ⟨c, t, h1, _⟩ := h st.2
  have e : f st = f (st.1, st.2) := rfl
  rw [e, h1 st.1, h1 []]
  simp
theorem putSeatsFrom_append (before : List SeatD) : ∀ (xs ys : List SeatD) (i : Nat) (st : St), putSeatsFrom before i (xs ++ ys) st = putSeatsFrom before (i + xs.length) ys (putSeatsFrom before i xs st)
  | [], ys, i, st => by simp [putSeatsFrom]
  | x :: xs, ys, i, st => by
    simp only [List.cons_append, putSeatsFrom, putSeatsFrom_append before xs ys (i + 1), List.length_cons]
    rw [show i + 1 + xs.length = i + (xs.length + 1) by omega]
/-- The first k seats. -/
def seatsTo (before ds : List SeatD) (ts : List (List UInt8)) (k : Nat) : St := putSeatsFrom before 0 (ds.take k) ([], ts)
theorem seatsTo_zero (before ds : List SeatD) (ts : List (List UInt8)) : seatsTo before ds ts 0 = ([], ts) := by simp [seatsTo, putSeatsFrom]
theorem seatsTo_all (before ds : List SeatD) (ts : List (List UInt8)) : seatsTo before ds ts ds.length = putSeatsFrom before 0 ds ([], ts) := by simp [seatsTo]
theorem seatsTo_step {before ds : List SeatD} {ts : List (List UInt8)} {k : Nat} {d : SeatD} (hd : ds[k]? = some d) :
    seatsTo before ds ts (k + 1) = ((seatsTo before ds ts k).1 ++ (putSeat d before[k]? ([], (seatsTo before ds ts k).2)).1, (putSeat d before[k]? ([], (seatsTo before ds ts k).2)).2) := by
  have hk : k < ds.length := (List.getElem?_eq_some_iff.1 hd).1
  have e : seatsTo before ds ts (k + 1) = putSeat d before[k]? (seatsTo before ds ts k) := by
    unfold seatsTo
    rw [List.take_add_one, hd, Option.toList_some, putSeatsFrom_snoc, show 0 + (ds.take k).length = k by simp; omega]
  rw [e]
  exact app_split (apps_Seat d before[k]?) _
theorem seatsTo_rest (before ds : List SeatD) (ts : List (List UInt8)) (k : Nat) : ∃ c, (putSeatsFrom before 0 ds ([], ts)).1 = (seatsTo before ds ts k).1 ++ c := by
  have h := putSeatsFrom_append before (ds.take k) (ds.drop k) 0 ([], ts)
  rw [List.take_append_drop] at h
  rw [h, app_split (apps_SeatsFrom before _ (ds.drop k))]
  exact ⟨_, rfl⟩
theorem seat_here {before ds : List SeatD} {ts : List (List UInt8)} {out rest : List UInt8} {p k : Nat} {d : SeatD} (h : out.drop p = (putSeatsFrom before 0 ds ([], ts)).1 ++ rest) (hd : ds[k]? = some d) :
    ∃ r, out.drop (p + (seatsTo before ds ts k).1.length) = (putSeat d before[k]? ([], (seatsTo before ds ts k).2)).1 ++ r := by
  obtain ⟨c, hc⟩ := seatsTo_rest before ds ts (k + 1)
  rw [seatsTo_step hd] at hc
  refine ⟨c ++ rest, ?_⟩
  rw [← List.drop_drop, h, hc]
  simp only [List.append_assoc, List.drop_left]
theorem same_eq {a b : SeatD} (h : sameSeatD a b = true) : a = b := by
  obtain ⟨a0, a1, a2, a3, a4, a5, a6, a7⟩ := a
  obtain ⟨b0, b1, b2, b3, b4, b5, b6, b7⟩ := b
  simp only [sameSeatD, Bool.and_eq_true, beq_iff_eq] at h
  obtain ⟨⟨⟨⟨⟨⟨⟨h0, h1⟩, h2⟩, h3⟩, h4⟩, h5⟩, h7⟩, h6⟩ := h
  subst h0 h1 h2 h3 h4 h5 h7 h6
  rfl

/-! ### In memory -/
section
variable {w w' : World} {s : Nat} {R : Nat → Prop} {out : List UInt8} {p : Nat} {ts : List (List UInt8)} {bv sv : Value}
/-- A block that is held is written, but not the bytes. -/
theorem Dec.poke (h : Dec w s R out p ts bv sv) {R0 : Nat → Prop} (h0 : RowAt w R0 bv out) (hr : ∀ k, R0 k → R k) {g : Nat} (hg : ¬ R0 g) (hgR : R g) (hb : ∀ k, k ≠ g → w'.heap[k]? = w.heap[k]?) (hz : w'.heap.size = w.heap.size) : Dec w' s R out p ts bv sv :=
  ⟨(hb s (fun e => h.here (e ▸ hgR))).trans h.box, (h0.kept (fun k hk => hb k (fun e => hg (e ▸ hk)))).more hr, own_kept h.strs (fun k hk => hb k (fun e => h.sat k hk (e ▸ hgR))), h.sat, h.here, fun k hk => by rw [hz]; exact h.base k hk⟩
theorem Dec.less (h : Dec w s R out p ts bv sv) {R0 : Nat → Prop} (h0 : RowAt w R0 bv out) (hr : ∀ k, R0 k → R k) : Dec w s R0 out p ts bv sv :=
  ⟨h.box, h0, h.strs, fun k hk hn => h.sat k hk (hr k hn), fun hn => h.here (hr s hn), fun k hk => h.base k (hr k hk)⟩
end

/-- Behind k seats: the new row, her seats; N: the new blocks of cards. -/
structure SIn (w W1 wr : World) (s : Nat) (R B N : Nat → Prop) (out : List UInt8) (p : Nat) (ts : List (List UInt8)) (bv sv : Value) (n k : Nat) (ds : List SeatD) : Prop where
  new : ∀ i, N i → W1.heap.size < i ∧ i < wr.heap.size
  dec : Dec wr s (fun i => (R i ∨ N i) ∨ i = W1.heap.size) out p ts bv sv
  fr : Fr R w wr
  row : ∃ arr : Array Value, wr.heap[W1.heap.size]? = some (.cells arr 69 (0, 0)) ∧ arr.size = n * 8
  each : ∀ j, j < k → ∃ d cv, ds[j]? = some d ∧ wr.rangeAt W1.heap.size (j * 8) (seatCells d cv) ∧ CardsAt wr (fun i => B i ∨ N i) cv d.cards

theorem SIn.step {w W1 wr w2 : World} {s : Nat} {R B N N2 : Nat → Prop} {out : List UInt8} {p p2 : Nat} {ts ts2 : List (List UInt8)} {bv sv sv2 : Value} {n k : Nat} {ds : List SeatD} {d : SeatD} {cv : Value} (h : SIn w W1 wr s R B N out p ts bv sv n k ds)
    (hk : k < n) (hd : ds[k]? = some d) (hR : ∀ i, R i → i < W1.heap.size) (hB : ∀ i, B i → R i) (hN : ∀ i, N i → N2 i) (hN2 : ∀ i, N2 i → W1.heap.size < i ∧ i < w2.heap.size) (hfr : Fr (fun i => (R i ∨ N i) ∨ i = W1.heap.size) wr w2)
    (hdec : Dec w2 s (fun i => (R i ∨ N2 i) ∨ i = W1.heap.size) out p2 ts2 bv sv2) (hbytes : RowAt w R bv out) (hc : CardsAt w2 (fun i => B i ∨ N2 i) cv d.cards) :
    w2.there W1.heap.size (k * 8) 8 ∧ SIn w W1 (w2.setCells W1.heap.size (k * 8) (seatCells d cv)) s R B N2 out p2 ts2 bv sv2 n (k + 1) ds := by
  obtain ⟨arr, h2, h3⟩ := h.row
  have h2' : w2.heap[W1.heap.size]? = some (.cells arr 69 (0, 0)) := (hfr.block _ (.inr rfl)).trans h2
  have hth : w2.there W1.heap.size (k * 8) 8 := there_of h2' (by omega)
  have hss : (w2.setCells W1.heap.size (k * 8) (seatCells d cv)).heap.size = w2.heap.size := (setCells_rest _ _ _ _).2.2.2
  have hsame : ∀ Q : Nat → Prop, (∀ i, Q i → i ≠ W1.heap.size) → Same Q w2 (w2.setCells W1.heap.size (k * 8) (seatCells d cv)) := fun Q hQ i hi => setCells_other _ _ _ _ _ (hQ i hi)
  have hfrR : Fr R w w2 := h.fr.trans (hfr.less (fun i hi => .inl (.inl hi)))
  have hne : ∀ i, (B i ∨ N2 i) → i ≠ W1.heap.size := fun i hi => by
    rcases hi with hi | hi
    · have := hR i (hB i hi); omega
    · have := (hN2 i hi).1; omega
  refine ⟨hth, ⟨fun i hi => by rw [hss]; exact hN2 i hi, hdec.poke (R0 := R) (hbytes.kept hfrR.block) (fun i hi => .inl (.inl hi)) (fun hi => by have := hR _ hi; omega) (.inr rfl) (fun i hi => setCells_other _ _ _ _ _ hi) hss, ?_, ?_, fun j hj => ?_⟩⟩
  · refine hfrR.trans ⟨(setCells_rest _ _ _ _).1, (setCells_rest _ _ _ _).2.1, (setCells_rest _ _ _ _).2.2.1, by rw [hss]; exact Nat.le_refl _, hsame R (fun i hi => by have := hR i hi; omega)⟩
  · obtain ⟨arr', p1, p2⟩ := setCells_block W1.heap.size 69 (seatCells d cv) (k * 8) _ arr h2'
    exact ⟨arr', p1, by rw [p2, h3]⟩
  · by_cases e : j = k
    · subst e
      exact ⟨d, cv, hd, World.rangeAt_setCells_same _ _ _ _ hth, hc.kept (hsame _ hne)⟩
    · obtain ⟨d', cv', q1, q2, q3⟩ := h.each j (by omega)
      refine ⟨d', cv', q1, World.rangeAt_setCells_apart ?_ _ _ _ (.inr (.inl (by show j * 8 + 8 ≤ k * 8; omega))), ?_⟩
      · exact fun i v hv => (hfr.cell (p := ⟨W1.heap.size, j * 8 + i, none⟩) (.inr rfl)).trans (q2 i v hv)
      · exact ((q3.kept (w' := w2) (fun i hi => hfr.block i (.inl (by rcases hi with hi | hi; exact .inl (hB i hi); exact .inr hi)))).more (fun i hi => by rcases hi with hi | hi; exact .inl hi; exact .inr (hN i hi))).kept (hsame _ hne)

theorem SIn.made {w W1 wr : World} {s : Nat} {R B N : Nat → Prop} {out : List UInt8} {p : Nat} {ts : List (List UInt8)} {bv sv : Value} {ds : List SeatD} (h : SIn w W1 wr s R B N out p ts bv sv ds.length ds.length ds) :
    SeatsAt wr (fun i => B i ∨ (N i ∨ i = W1.heap.size)) (.slice (some ⟨W1.heap.size, 0, none⟩) ds.length ds.length) (some ds) := by
  refine ⟨⟨W1.heap.size, 0, none⟩, ds.length, rfl, ?_⟩
  by_cases e : 0 < ds.length
  · exact .inr ⟨e, W1.heap.size, 0, rfl, fun i hi => by
      obtain ⟨d, cv, p1, p2, p3⟩ := h.each i hi
      exact ⟨d, cv, p1, by rw [Nat.zero_add]; exact seat_of_range p2 (.inr (.inr rfl)) (p3.more (fun i hi => by rcases hi with hi | hi; exact .inl hi; exact .inr (.inl hi)))⟩⟩
  · exact .inl (by omega)

/-- A struct in hand, in block T, besides what is held (R); the blocks of F as they were. -/
structure TIn (wa wr : World) (s T : Nat) (R0 F R : Nat → Prop) (out : List UInt8) (p : Nat) (ts : List (List UInt8)) (bv sv : Value) (ty : TypeId) (cells : Array Value) : Prop where
  dec : Dec wr s (fun i => R i ∨ i = T) out p ts bv sv
  bytes : RowAt wr R0 bv out
  fr : Fr F wa wr
  box : wr.heap[T]? = some (.cells cells ty (0, 0))
  sub0 : ∀ i, R0 i → R i
  sub : ∀ i, F i → R i
  out : ¬ R T
section
variable {wa wr w2 : World} {s T : Nat} {R0 F R : Nat → Prop} {out : List UInt8} {p p2 : Nat} {ts ts2 : List (List UInt8)} {bv sv sv2 : Value} {ty : TypeId} {cells : Array Value}
theorem TIn.alloc {w : World} (h : Dec w s R out p ts bv sv) (h0 : RowAt w R0 bv out) (hr : ∀ i, R0 i → R i) (hf : ∀ i, F i → R i) (ty : TypeId) (cells : Array Value) : TIn w (w.alloc (.cells cells ty)) s w.heap.size R0 F R out p ts bv sv ty cells :=
  ⟨(h.hold _).1, h0.kept (fun k hk => Below.heap_alloc w _ k (h.base k (hr k hk))), (h.hold _).2.less hf, heap_alloc_new w _, hr, hf, fun e => by have := h.base _ e; omega⟩
theorem TIn.poke (h : TIn wa wr s T R0 F R out p ts bv sv ty cells) (j : Nat) (v : Value) : TIn wa (wr.setCell ⟨T, j, none⟩ v) s T R0 F R out p ts bv sv ty (cells.setIfInBounds j v) := by
  have hset : ∀ k, k ≠ T → (wr.setCell ⟨T, j, none⟩ v).heap[k]? = wr.heap[k]? := fun _ hk => Below.heap_setCell _ _ _ _ hk
  have hsz : (wr.setCell ⟨T, j, none⟩ v).heap.size = wr.heap.size := by simp [World.setCell]
  have h0T : ∀ k, R k → k ≠ T := fun _ hk e => h.out (e ▸ hk)
  exact ⟨h.dec.poke h.bytes (fun k hk => .inl (h.sub0 k hk)) (fun hk => h.out (h.sub0 _ hk)) (.inr rfl) hset hsz, h.bytes.kept (fun k hk => hset k (h0T k (h.sub0 k hk))), h.fr.trans ⟨rfl, rfl, rfl, by rw [hsz]; exact Nat.le_refl _, fun k hk => hset k (h0T k (h.sub k hk))⟩, heap_setCell_same wr T j cells ty v h.box, h.sub0, h.sub, h.out⟩
theorem TIn.call (h : TIn wa wr s T R0 F R out p ts bv sv ty cells) (hd : Dec w2 s (fun i => R i ∨ i = T) out p2 ts2 bv sv2) (hf : Fr (fun i => R i ∨ i = T) wr w2) : TIn wa w2 s T R0 F R out p2 ts2 bv sv2 ty cells :=
  ⟨hd, h.bytes.kept (fun k hk => hf.block k (.inl (h.sub0 k hk))), h.fr.trans (hf.less (fun k hk => .inl (h.sub k hk))), (hf.block T (.inr rfl)).trans h.box, h.sub0, h.sub, h.out⟩
theorem TIn.callNew (h : TIn wa wr s T R0 F R out p ts bv sv ty cells) {N : Nat → Prop} (hN : ∀ k, N k → wr.heap.size ≤ k ∧ k < w2.heap.size) (hd : Dec w2 s (fun i => (R i ∨ i = T) ∨ N i) out p2 ts2 bv sv2) (hf : Fr (fun i => R i ∨ i = T) wr w2) :
    TIn wa w2 s T R0 F (fun i => R i ∨ N i) out p2 ts2 bv sv2 ty cells :=
  ⟨hd.same (fun k => by constructor <;> (rintro ((h | h) | h) <;> simp [h])), h.bytes.kept (fun k hk => hf.block k (.inl (h.sub0 k hk))), h.fr.trans (hf.less (fun k hk => .inl (h.sub k hk))), (hf.block T (.inr rfl)).trans h.box, fun k hk => .inl (h.sub0 k hk), fun k hk => .inl (h.sub k hk),
    fun e => e.elim h.out (fun e => by have := (hN T e).1; have := h.dec.base T (.inr rfl); omega)⟩
theorem TIn.cell (h : TIn wa wr s T R0 F R out p ts bv sv ty cells) (j : Nat) : wr.cell? ⟨T, j, none⟩ = cells[j]? ∧ wr.frozen? ⟨T, j, none⟩ = false :=
  ⟨cell_of_row wr T j cells ty (0, 0) h.box, frozen_of_row wr T j cells ty h.box⟩
theorem TIn.range (h : TIn wa wr s T R0 F R out p ts bv sv ty cells) {cs : List Value} (hc : cells = cs.toArray) : wr.rangeAt T 0 cs := fun j v hv => by
  rw [Nat.zero_add, (h.cell j).1, hc]
  simpa using hv
end
end Go.Proofs.Qxb6618929a
