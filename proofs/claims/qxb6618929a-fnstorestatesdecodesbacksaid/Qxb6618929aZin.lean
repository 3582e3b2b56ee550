/-
  WHAT COMES IN: a ZState as its 24 cells; legal moves, turns; what a store into a row leaves.
-/
import Derived.Test.Qxb6618929aStore
import Derived.Test.Qxb6618929aBuild1
import Derived.Deep.MidRow
namespace Go.Proofs.Qxb6618929a
open Go Go.RowKit

structure LegalD where
  action : List UInt8
  amount : Int
  min : Int
  max : Int
def LegalD.cells (l : LegalD) : List Value := [encS l.action, .int .i64 l.amount, .int .i64 l.min, .int .i64 l.max]
structure TurnD where
  token : List UInt8
  left : Int
  legal : Option (List LegalD)

/-- A slice of legal moves, or nil. -/
def LegalAt (w : World) (R : Nat → Prop) (v : Value) (o : Option (List LegalD)) : Prop := match o with
  | none => v = .slice none 0 0
  | some ls => ∃ (a : Addr) (cap : Nat), v = .slice (some a) ls.length cap ∧ (ls.length ≤ 0 ∨ (0 < ls.length ∧ ∃ b off, a = ⟨b, off, none⟩ ∧ R b ∧ Hid (∀ i, i < ls.length → ∃ l, ls[i]? = some l ∧ w.rangeAt b (off + i * 4) l.cells)))
theorem Same.range {R : Nat → Prop} {w w' : World} (h : Same R w w') {b o : Nat} {cs : List Value} (hb : R b) (hr : w.rangeAt b o cs) : w'.rangeAt b o cs := fun j v hv => (h.cell (p := ⟨b, o + j, none⟩) hb).trans (hr j v hv)
theorem LegalAt.kept {w w' : World} {R : Nat → Prop} {v : Value} {o : Option (List LegalD)} (h : LegalAt w R v o) (hs : Same R w w') : LegalAt w' R v o := by
  cases o with
  | none => exact h
  | some ls =>
    obtain ⟨a, cap, h1, h2⟩ := h
    refine ⟨a, cap, h1, ?_⟩
    rcases h2 with h2 | ⟨h3, b, off, h4, h6, h5⟩
    · exact .inl h2
    · exact .inr ⟨h3, b, off, h4, h6, fun i hi => by
        obtain ⟨l, p1, p2⟩ := h5.out i hi
        exact ⟨l, p1, hs.range h6 p2⟩⟩
theorem LegalAt.more {w : World} {R R' : Nat → Prop} {v : Value} {o : Option (List LegalD)} (h : LegalAt w R v o) (hr : ∀ k, R k → R' k) : LegalAt w R' v o := by
  cases o with
  | none => exact h
  | some ls =>
    obtain ⟨a, cap, h1, h2⟩ := h
    refine ⟨a, cap, h1, ?_⟩
    rcases h2 with h2 | ⟨h3, b, off, h4, h6, h5⟩
    · exact .inl h2
    · exact .inr ⟨h3, b, off, h4, hr _ h6, h5⟩
/-- A pointer to a turn, or nil. -/
def TurnAt (w : World) (R : Nat → Prop) (v : Value) (o : Option TurnD) : Prop := match o with
  | none => v = .pointer none
  | some t => ∃ (g : Nat) (vL : Value), v = .pointer (some ⟨g, 0, none⟩) ∧ R g ∧ w.rangeAt g 0 [encS t.token, .int .i64 t.left, vL] ∧ LegalAt w R vL t.legal
theorem TurnAt.kept {w w' : World} {R : Nat → Prop} {v : Value} {o : Option TurnD} (h : TurnAt w R v o) (hs : Same R w w') : TurnAt w' R v o := by
  cases o with
  | none => exact h
  | some t =>
    obtain ⟨g, vL, h1, h2, h3, h4⟩ := h
    exact ⟨g, vL, h1, h2, hs.range h2 h3, h4.kept hs⟩
theorem TurnAt.more {w : World} {R R' : Nat → Prop} {v : Value} {o : Option TurnD} (h : TurnAt w R v o) (hr : ∀ k, R k → R' k) : TurnAt w R' v o := by
  cases o with
  | none => exact h
  | some t =>
    obtain ⟨g, vL, h1, h2, h3, h4⟩ := h
    exact ⟨g, vL, h1, hr _ h2, h3, h4.more hr⟩

/-- A state as it comes in: what it says, and the values of its slices and pointers. -/
structure ZIn where
  d : StateD
  hasTurn : Bool
  token : List UInt8
  left : Int
  legal : Option (List LegalD)
  vES : Value
  vEB : Value
  vL : Value
  vB : Value
  vTA : Value
  vS : Value
def ZIn.turn (z : ZIn) : Option TurnD := if z.hasTurn then some ⟨z.token, z.left, z.legal⟩ else none
def ZIn.cells (z : ZIn) : List Value :=
  [encS z.d.type, .int .i64 z.d.seq, encS z.d.kind, z.vES, encS z.d.action, .int .i64 z.d.amount, encS z.d.street, z.vEB, .int .i64 z.d.place, .bool z.hasTurn, encS z.token, .int .i64 z.left, z.vL, .int .i64 z.d.hand, .int .i64 z.d.sb, .int .i64 z.d.bb, .int .i64 z.d.ante,
    encS z.d.tstreet, .int .i64 z.d.button, z.vB, .int .i64 z.d.pot, z.vTA, z.vS, .bool z.d.resync]
structure ZAt (w : World) (R : Nat → Prop) (z : ZIn) : Prop where
  eseat : OptAt w R z.vES z.d.eseat
  eboard : CardsAt w R z.vEB z.d.eboard
  legal : LegalAt w R z.vL z.legal
  board : CardsAt w R z.vB z.d.board
  toAct : OptAt w R z.vTA z.d.toAct
  seats : SeatsAt w R z.vS z.d.seats
theorem ZAt.kept {w w' : World} {R : Nat → Prop} {z : ZIn} (h : ZAt w R z) (hs : Same R w w') : ZAt w' R z := ⟨h.eseat.kept hs, h.eboard.kept hs, h.legal.kept hs, h.board.kept hs, h.toAct.kept hs, h.seats.kept hs⟩
structure ZOk (z : ZIn) : Prop where
  state : StateOk z.d
  legal : (z.legal.getD []).length ≤ 1048577

/-! ### A store into a row -/
theorem setCells_block (b : Nat) (t : TypeId) : ∀ (vs : List Value) (o : Nat) (w : World) (arr : Array Value), w.heap[b]? = some (.cells arr t (0, 0)) → ∃ arr' : Array Value, (w.setCells b o vs).heap[b]? = some (.cells arr' t (0, 0)) ∧ arr'.size = arr.size
  | [], _, _, arr, h => ⟨arr, h, rfl⟩
  | v :: vs, o, w, arr, h => by
    have h1 := heap_setCell_same w b o arr t v h
    obtain ⟨arr', h2, h3⟩ := setCells_block b t vs (o + 1) (w.setCell ⟨b, o, none⟩ v) _ h1
    exact ⟨arr', h2, by rw [h3]; simp⟩
theorem setCells_other (b : Nat) : ∀ (vs : List Value) (o : Nat) (w : World) (k : Nat), k ≠ b → (w.setCells b o vs).heap[k]? = w.heap[k]?
  | [], _, _, _, _ => rfl
  | v :: vs, o, w, k, h => by
    rw [World.setCells, setCells_other b vs (o + 1) _ k h]
    exact Below.heap_setCell _ _ _ _ h
theorem setCells_rest (b : Nat) : ∀ (vs : List Value) (o : Nat) (w : World), (w.setCells b o vs).os = w.os ∧ (w.setCells b o vs).tape = w.tape ∧ (w.setCells b o vs).output = w.output ∧ (w.setCells b o vs).heap.size = w.heap.size
  | [], _, _ => ⟨rfl, rfl, rfl, rfl⟩
  | v :: vs, o, w => by
    rw [World.setCells]
    obtain ⟨h1, h2, h3, h4⟩ := setCells_rest b vs (o + 1) (w.setCell ⟨b, o, none⟩ v)
    exact ⟨h1, h2, h3, by rw [h4]; simp [World.setCell]⟩
theorem below_setCells {B b o : Nat} {w0 w : World} {vs : List Value} (h : Below B w0 w) (hb : B ≤ b) : Below B w0 (w.setCells b o vs) := by
  obtain ⟨h1, h2, h3, h4⟩ := setCells_rest b vs o w
  exact ⟨h1.trans h.os, h2.trans h.tape, h3.trans h.output, by rw [h4]; exact h.size, fun k hk => (setCells_other b vs o w k (by omega)).trans (h.block k hk)⟩
theorem there_of {w : World} {b : Nat} {t : TypeId} {arr : Array Value} (h : w.heap[b]? = some (.cells arr t (0, 0))) {o n : Nat} (hn : o + n ≤ arr.size) : w.there b o n := fun j hj => by
  refine ⟨?_, frozen_of_row w b (o + j) arr t h⟩
  rw [cell_of_row w b (o + j) arr t (0, 0) h, Array.getElem?_eq_getElem (by omega)]
  rfl
end Go.Proofs.Qxb6618929a
