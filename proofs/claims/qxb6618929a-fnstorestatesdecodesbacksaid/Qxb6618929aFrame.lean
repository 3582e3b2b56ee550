/-
  WHAT CAME IN, OPENED: bytes, ints, legal moves, seats, states.
-/
import Derived.Test.Qxb6618929aBytes
import Derived.ProofKit
import Derived.OpenShut
import Derived.ShutString
import Derived.Deep.Slices
import Derived.Lib.SmallJoins
namespace Go.Proofs.Qxb6618929a
open Go Go.ChangeShapes Go.WideShapes Go.ChangeAt Go.RowKit Go.Joins Go.Deep

structure ZRange (z : ZIn) : Prop where
  seq : Range z.d.seq
  eseat : ∀ x, z.d.eseat = some x → Range x
  amount : Range z.d.amount
  place : Range z.d.place
  hand : Range z.d.hand
  sb : Range z.d.sb
  bb : Range z.d.bb
  ante : Range z.d.ante
  button : Range z.d.button
  pot : Range z.d.pot
  toAct : ∀ x, z.d.toAct = some x → Range x
  seats : ∀ d ∈ z.d.seats.getD [], Range d.seat ∧ Range d.stack ∧ Range d.bet

theorem ZSmall.ok {z : ZIn} (s : ZSmall z) (r : ZRange z) : ZOk z :=
  ⟨⟨Nat.le_succ_of_le s.type, r.seq, Nat.le_succ_of_le s.kind, r.eseat, Nat.le_succ_of_le s.action, r.amount, Nat.le_succ_of_le s.street, Nat.le_succ_of_le s.eboard, r.place, r.hand, r.sb, r.bb, r.ante, Nat.le_succ_of_le s.tstreet, r.button, Nat.le_succ_of_le s.board, r.pot, r.toAct,
    ⟨by have := s.seats; omega, fun d hd => ⟨(r.seats d hd).1, Nat.le_succ_of_le (s.names d hd).1, (r.seats d hd).2.1, (r.seats d hd).2.2, Nat.le_succ_of_le (s.names d hd).2⟩⟩⟩, Nat.le_succ_of_le s.legal⟩

theorem cells9 : Try.prog.cellsOf 9 = 1 := by kernel_rfl
theorem cells2 : Try.prog.cellsOf 2 = 1 := by kernel_rfl
theorem cells3 : Try.prog.cellsOf 3 = 1 := by kernel_rfl
theorem cells4 : Try.prog.cellsOf 4 = 1 := by kernel_rfl
theorem cells5 : Try.prog.cellsOf 5 = 1 := by kernel_rfl
theorem cells36 : Try.prog.cellsOf 36 = 1 := by kernel_rfl
theorem cells46 : Try.prog.cellsOf 46 = 1 := by kernel_rfl
theorem cells47 : Try.prog.cellsOf 47 = 1 := by kernel_rfl
theorem cells48 : Try.prog.cellsOf 48 = 1 := by kernel_rfl
theorem cells67 : Try.prog.cellsOf 67 = 4 := by kernel_rfl
theorem cells69 : Try.prog.cellsOf 69 = 8 := by kernel_rfl
theorem cells50 : Try.prog.cellsOf 50 = 24 := by kernel_rfl

def In (W : World) : Nat → Prop := fun k => k < W.heap.size

section
variable {H : Type} {enc : TypeId × Value → H} {W : World} {n : Nat} {v : Value} {y : DataW H × List MemPlace}

theorem str_of (h : DataW.trod enc Try.prog W 0 (fun _ => true) true n 9 [v] = some y) : ∃ l : List UInt8, v = encS l ∧ l.length ≤ 9223372036854775807 := by
  obtain ⟨s, hs, _, hl⟩ := DataW.trod_string Try.underlying9 h
  obtain rfl : v = .string s := by simpa using hs
  refine ⟨s.data.toList, by rw [encS, Array.toArray_toList], ?_⟩
  unfold maxLen at hl
  have : s.data.toList.length = s.size := Array.length_toList
  omega
theorem int_of {t : TypeId} (ht : Try.prog.underlying t = some (.int .i64)) (h : DataW.trod enc Try.prog W 0 (fun _ => true) true n t [v] = some y) : ∃ x : Int, v = .int .i64 x ∧ Range x := by
  obtain ⟨x, hs, _, hw⟩ := DataW.trod_int ht h
  obtain rfl : v = .int .i64 x := by simpa using hs
  exact ⟨x, rfl, bounds_i64 hw⟩
theorem bool_of (h : DataW.trod enc Try.prog W 0 (fun _ => true) true n 4 [v] = some y) : ∃ x : Bool, v = .bool x := by
  obtain ⟨x, hs, _⟩ := DataW.trod_bool Try.underlying4 h
  exact ⟨x, by simpa using hs⟩
theorem opt_of (h : DataW.trod enc Try.prog W 0 (fun _ => true) true n 47 [v] = some y) : ∃ o, OptAt W (In W) v o ∧ ∀ x, o = some x → Range x := by
  rcases DataW.trod_pointer Try.underlying47 h with ⟨h0, _⟩ | ⟨a, cs', y', n', _, h0, _, h1, h2⟩
  · obtain rfl : v = .pointer none := by simpa using h0
    exact ⟨none, rfl, fun x h => by cases h⟩
  · obtain rfl : v = .pointer (some a) := by simpa using h0
    rw [cells3] at h1
    obtain ⟨_, hl, _⟩ := World.cells?_some h1
    match cs', hl with
    | [u], _ =>
      obtain ⟨x, rfl, hx⟩ := int_of Try.underlying3 h2
      have hc := cell_of_cells?_one h1
      exact ⟨some x, ⟨a, rfl, World.block_lt_of_cell? W _ hc, hc⟩, fun x' h => by cases h; exact hx⟩
theorem bytes_of (h : DataW.trod enc Try.prog W 0 (fun _ => true) true n 36 [v] = some y) : ∃ o, CardsAt W (In W) v o ∧ (o.getD []).length ≤ 9223372036854775807 := by
  rcases open_ints Try.underlying36 Try.underlying5 cells5 h with ⟨h0, _⟩ | ⟨a, len, cap, zs, h0, _, hl, hm, hz, _, hc, hw⟩
  · obtain rfl : v = .slice none 0 0 := by simpa using h0
    exact ⟨none, rfl, by simp⟩
  · obtain rfl : v = .slice (some a) len cap := by simpa using h0
    have hz' : zs.length = cap := by simpa using hz
    have hlen : ((zs.take len).map (fun x => UInt8.ofNat x.toNat)).length = len := by simp; omega
    unfold maxLen at hm
    refine ⟨some ((zs.take len).map (fun x => UInt8.ofNat x.toNat)), ⟨a, cap, by rw [hlen], ?_⟩, by rw [Option.getD_some, hlen]; omega⟩
    rw [hlen]
    by_cases h0 : 0 < len
    · right
      obtain ⟨b, off, spot⟩ := a
      have hc0 := hc 0 (by omega)
      have hspot : spot = none := by simpa [Addr.add] using World.cell?_spot hc0
      subst hspot
      refine ⟨b, off, rfl, ?_, fun j hj => ?_⟩
      · have := World.block_lt_of_cell? W _ hc0
        show b < W.heap.size
        simpa [Addr.add] using this
      · have h1 := hc j (by omega)
        rw [Addr.add_mid] at h1
        rw [h1]
        have hb := bounds_u8 (hw _ (List.getElem_mem (show j < zs.length by omega)))
        simp only [List.getD, List.getElem?_map, List.getElem?_take, hj, if_true, List.getElem?_eq_getElem (show j < zs.length by omega), Option.map_some, Option.getD_some, UInt8.toNat_ofNat']
        rw [Nat.mod_eq_of_lt (by omega)]
        congr 2
        omega
    · left
      omega

/-- A field of one cell of a struct. -/
theorem field_of {t : TypeId} {fs : Array Field} {cs : List Value} (ht : Try.prog.underlying t = some (.struct fs)) (h : DataW.trod enc Try.prog W 0 (fun _ => true) true n t cs = some y) :
    cs.length = Try.prog.cellsOf t ∧ ∃ m, ∀ (i : Nat) (f : Field) (u : Value), fs[i]? = some f → Try.prog.cellsOf f.type = 1 → cs[f.offset]? = some u → ∃ y', DataW.trod enc Try.prog W 0 (fun _ => true) true m f.type [u] = some y' := by
  obtain ⟨xs, m, _, _, hl, hlen, hf⟩ := DataW.trod_struct ht h
  refine ⟨hl, m, fun i f u h1 h2 h3 => ?_⟩
  have hi : i < xs.length := by rw [hlen]; exact (Array.getElem?_eq_some_iff.1 h1).1
  have := hf i f h1
  obtain ⟨hlt, hv⟩ := List.getElem?_eq_some_iff.1 h3
  rw [h2, List.drop_eq_getElem_cons hlt, hv, List.getElem?_eq_getElem hi] at this
  exact ⟨_, this⟩

theorem list_of {α : Type} {Pr : Nat → α → Prop} : ∀ n, (∀ i, i < n → ∃ r, Pr i r) → ∃ rs : List α, rs.length = n ∧ ∀ i, i < n → ∃ r, rs[i]? = some r ∧ Pr i r
  | 0, _ => ⟨[], rfl, fun i h => by omega⟩
  | n + 1, h => by
    obtain ⟨rs, h1, h2⟩ := list_of n (fun i hi => h i (by omega))
    obtain ⟨r, hr⟩ := h n (by omega)
    refine ⟨rs ++ [r], by simp [h1], fun i hi => ?_⟩
    by_cases e : i = n
    · subst e
      exact ⟨r, by simp [← h1], hr⟩
    · obtain ⟨r', g1, g2⟩ := h2 i (by omega)
      exact ⟨r', by rw [List.getElem?_append_left (by omega)]; exact g1, g2⟩

/-- A slice of structs of k cells, opened: what is known of each. -/
theorem rows_of {α : Type} {t e : TypeId} {k : Nat} {cells : α → List Value} {Pr : α → Prop} (ht : Try.prog.underlying t = some (.slice e)) (hk : Try.prog.cellsOf e = k + 1)
    (each : ∀ (m : Nat) (cs : List Value) (y' : DataW H × List MemPlace), DataW.trod enc Try.prog W 0 (fun _ => true) true m e cs = some y' → ∃ r, cs = cells r ∧ Pr r)
    (h : DataW.trod enc Try.prog W 0 (fun _ => true) true n t [v] = some y) :
    v = .slice none 0 0 ∨ ∃ (a : Addr) (cap : Nat) (rs : List α), v = .slice (some a) rs.length cap ∧ (rs.length ≤ cap ∧ cap ≤ 9223372036854775807) ∧ (∀ r ∈ rs, Pr r) ∧
      (rs.length ≤ 0 ∨ (0 < rs.length ∧ ∃ b off, a = ⟨b, off, none⟩ ∧ In W b ∧ ∀ i, i < rs.length → ∃ r, rs[i]? = some r ∧ W.rangeAt b (off + i * (k + 1)) (cells r))) := by
  rcases open_slice ht h with ⟨h0, _⟩ | ⟨a, len, cap, m, n', D, Pl, h0, _, hl, hm, hmm, _, hx⟩
  · exact .inl (by simpa using h0)
  · obtain rfl : v = .slice (some a) len cap := by simpa using h0
    have hlm : len ≤ m := by rw [hmm]; split <;> omega
    obtain ⟨rs, h1, h2⟩ := list_of (Pr := fun i (r : α) => ((cells r).length = k + 1 ∧ ∀ j u, (cells r)[j]? = some u → W.cell? (a.add (i * (k + 1) + j)) = some u) ∧ Pr r) len (fun i hi => by
      obtain ⟨cs', g1, g2⟩ := hx i (by omega)
      rw [hk] at g1
      obtain ⟨_, hlen, hcell⟩ := World.cells?_some g1
      obtain ⟨r, rfl, hr⟩ := each _ _ _ g2
      refine ⟨r, ⟨hlen, fun j u hu => ?_⟩, hr⟩
      have := hcell j (by rw [← hlen]; exact (List.getElem?_eq_some_iff.1 hu).1)
      rw [add_add] at this
      rw [this]
      exact hu)
    subst h1
    refine .inr ⟨a, cap, rs, rfl, by unfold maxLen at hm; omega, fun r hr => ?_, ?_⟩
    · obtain ⟨i, hi, rfl⟩ := List.getElem_of_mem hr
      obtain ⟨r', g1, g2⟩ := h2 i hi
      rw [List.getElem?_eq_getElem hi] at g1
      rw [Option.some.inj g1]
      exact g2.2
    · clear h0
      by_cases h0 : 0 < rs.length
      · right
        obtain ⟨b, off, spot⟩ := a
        obtain ⟨r0, _, ⟨hl0, hc⟩, _⟩ := h2 0 h0
        have hc0 := hc 0 _ (List.getElem?_eq_getElem (show 0 < (cells r0).length by omega))
        have hspot : spot = none := by simpa [Addr.add] using World.cell?_spot hc0
        subst hspot
        refine ⟨h0, b, off, rfl, ?_, fun i hi => ?_⟩
        · have := World.block_lt_of_cell? W _ hc0
          show b < W.heap.size
          simpa [Addr.add] using this
        · obtain ⟨r, g1, ⟨_, g2⟩, _⟩ := h2 i hi
          refine ⟨r, g1, fun j u hu => ?_⟩
          have := g2 j u hu
          rwa [Addr.add_mid, ← Nat.add_assoc] at this
      · exact .inl (by omega)

theorem legal_of (cs : List Value) (h : DataW.trod enc Try.prog W 0 (fun _ => true) true n 67 cs = some y) : ∃ l : LegalD, cs = l.cells ∧ l.action.length ≤ 9223372036854775807 := by
  obtain ⟨hl, m, hf⟩ := field_of Try.underlying67 h
  rw [cells67] at hl
  obtain ⟨v0, v1, v2, v3, rfl⟩ : ∃ v0 v1 v2 v3, cs = [v0, v1, v2, v3] := by
    match cs, hl with
    | [v0, v1, v2, v3], _ => exact ⟨v0, v1, v2, v3, rfl⟩
  obtain ⟨_, g0⟩ := hf 0 _ v0 rfl cells9 rfl
  obtain ⟨_, g1⟩ := hf 1 _ v1 rfl cells3 rfl
  obtain ⟨_, g2⟩ := hf 2 _ v2 rfl cells3 rfl
  obtain ⟨_, g3⟩ := hf 3 _ v3 rfl cells3 rfl
  obtain ⟨a, rfl, ha⟩ := str_of g0
  obtain ⟨b, rfl, _⟩ := int_of Try.underlying3 g1
  obtain ⟨c, rfl, _⟩ := int_of Try.underlying3 g2
  obtain ⟨d, rfl, _⟩ := int_of Try.underlying3 g3
  exact ⟨⟨a, b, c, d⟩, rfl, ha⟩

/-- A seat as it comes in, with the value of her cards. -/
structure SeatIn where
  d : SeatD
  cv : Value
theorem seat_of (cs : List Value) (h : DataW.trod enc Try.prog W 0 (fun _ => true) true n 69 cs = some y) : ∃ s : SeatIn, cs = seatCells s.d s.cv ∧ CardsAt W (In W) s.cv s.d.cards ∧ (s.d.name.length ≤ 9223372036854775807 ∧ (s.d.cards.getD []).length ≤ 9223372036854775807) ∧ Range s.d.seat ∧ Range s.d.stack ∧ Range s.d.bet := by
  obtain ⟨hl, m, hf⟩ := field_of Try.underlying69 h
  rw [cells69] at hl
  obtain ⟨v0, v1, v2, v3, v4, v5, v6, v7, rfl⟩ : ∃ v0 v1 v2 v3 v4 v5 v6 v7, cs = [v0, v1, v2, v3, v4, v5, v6, v7] := by
    match cs, hl with
    | [v0, v1, v2, v3, v4, v5, v6, v7], _ => exact ⟨v0, v1, v2, v3, v4, v5, v6, v7, rfl⟩
  obtain ⟨_, g0⟩ := hf 0 _ v0 rfl cells3 rfl
  obtain ⟨_, g1⟩ := hf 1 _ v1 rfl cells9 rfl
  obtain ⟨_, g2⟩ := hf 2 _ v2 rfl cells3 rfl
  obtain ⟨_, g3⟩ := hf 3 _ v3 rfl cells3 rfl
  obtain ⟨_, g4⟩ := hf 4 _ v4 rfl cells4 rfl
  obtain ⟨_, g5⟩ := hf 5 _ v5 rfl cells4 rfl
  obtain ⟨_, g6⟩ := hf 6 _ v6 rfl cells36 rfl
  obtain ⟨_, g7⟩ := hf 7 _ v7 rfl cells4 rfl
  obtain ⟨a, rfl, ha⟩ := int_of Try.underlying3 g0
  obtain ⟨b, rfl, hb⟩ := str_of g1
  obtain ⟨c, rfl, hc⟩ := int_of Try.underlying3 g2
  obtain ⟨d, rfl, hd⟩ := int_of Try.underlying3 g3
  obtain ⟨e, rfl⟩ := bool_of g4
  obtain ⟨f, rfl⟩ := bool_of g5
  obtain ⟨o, h1, h2⟩ := bytes_of g6
  obtain ⟨i, rfl⟩ := bool_of g7
  exact ⟨⟨⟨a, b, c, d, e, f, o, i⟩, v6⟩, rfl, h1, ⟨hb, h2⟩, ha, hc, hd⟩

theorem legals_of (h : DataW.trod enc Try.prog W 0 (fun _ => true) true n 48 [v] = some y) : ∃ o, LegalAt W (In W) v o ∧ (o.getD []).length ≤ 9223372036854775807 ∧ ∀ l ∈ o.getD [], l.action.length ≤ 9223372036854775807 := by
  rcases rows_of (cells := LegalD.cells) (Pr := fun l => l.action.length ≤ 9223372036854775807) Try.underlying48 cells67 (fun m cs y' h' => legal_of cs h') h with rfl | ⟨a, cap, ls, rfl, h1, h2, h3⟩
  · exact ⟨none, rfl, by simp, fun l hl => by simp at hl⟩
  · refine ⟨some ls, ⟨a, cap, rfl, ?_⟩, Nat.le_trans h1.1 h1.2, h2⟩
    rcases h3 with h3 | ⟨h0, b, off, rfl, hb, hc⟩
    · exact .inl h3
    · exact .inr ⟨h0, b, off, rfl, hb, hc⟩
theorem seats_of (h : DataW.trod enc Try.prog W 0 (fun _ => true) true n 46 [v] = some y) : ∃ o, SeatsAt W (In W) v o ∧ (o.getD []).length ≤ 9223372036854775807 ∧ (∀ d ∈ o.getD [], d.name.length ≤ 9223372036854775807 ∧ (d.cards.getD []).length ≤ 9223372036854775807) ∧ ∀ d ∈ o.getD [], Range d.seat ∧ Range d.stack ∧ Range d.bet := by
  rcases rows_of (cells := fun s : SeatIn => seatCells s.d s.cv) (Pr := fun s => CardsAt W (In W) s.cv s.d.cards ∧ (s.d.name.length ≤ 9223372036854775807 ∧ (s.d.cards.getD []).length ≤ 9223372036854775807) ∧ Range s.d.seat ∧ Range s.d.stack ∧ Range s.d.bet) Try.underlying46 cells69 (fun m cs y' h' => seat_of cs h') h with rfl | ⟨a, cap, ss, rfl, h1, h2, h3⟩
  · exact ⟨none, rfl, by simp, fun l hl => by simp at hl, fun l hl => by simp at hl⟩
  · have hml : ∀ d ∈ ss.map (·.d), ∃ s ∈ ss, s.d = d := fun d hd => by simpa using hd
    refine ⟨some (ss.map (·.d)), ⟨a, cap, by rw [List.length_map], ?_⟩, by rw [Option.getD_some, List.length_map]; exact Nat.le_trans h1.1 h1.2, fun d hd => ?_, fun d hd => ?_⟩
    · rw [List.length_map]
      rcases h3 with h3 | ⟨h0, b, off, rfl, hb, hc⟩
      · exact .inl h3
      · refine .inr ⟨h0, b, off, rfl, fun i hi => ?_⟩
        obtain ⟨s, p1, p2⟩ := hc i hi
        exact ⟨s.d, s.cv, by rw [List.getElem?_map, p1]; rfl, seat_of_range p2 hb (h2 s (List.mem_of_getElem? p1)).1⟩
    · obtain ⟨s, hs, rfl⟩ := hml d hd
      exact (h2 s hs).2.1
    · obtain ⟨s, hs, rfl⟩ := hml d hd
      exact (h2 s hs).2.2

theorem list24 {l : List Value} (h : l.length = 24) : ∃ v0 v1 v2 v3 v4 v5 v6 v7 v8 v9 v10 v11 v12 v13 v14 v15 v16 v17 v18 v19 v20 v21 v22 v23, l = [v0, v1, v2, v3, v4, v5, v6, v7, v8, v9, v10, v11, v12, v13, v14, v15, v16, v17, v18, v19, v20, v21, v22, v23] := by
  match l, h with
  | [v0, v1, v2, v3, v4, v5, v6, v7, v8, v9, v10, v11, v12, v13, v14, v15, v16, v17, v18, v19, v20, v21, v22, v23], _ => exact ⟨v0, v1, v2, v3, v4, v5, v6, v7, v8, v9, v10, v11, v12, v13, v14, v15, v16, v17, v18, v19, v20, v21, v22, v23, rfl⟩
theorem state_of (cs : List Value) (h : DataW.trod enc Try.prog W 0 (fun _ => true) true n 50 cs = some y) : ∃ z : ZIn, cs = z.cells ∧ ZAt W (In W) z ∧ ZLen z ∧ ZRange z := by
  obtain ⟨hl, m, hf⟩ := field_of Try.underlying50 h
  rw [cells50] at hl
  obtain ⟨v0, v1, v2, v3, v4, v5, v6, v7, v8, v9, v10, v11, v12, v13, v14, v15, v16, v17, v18, v19, v20, v21, v22, v23, rfl⟩ := list24 hl
  obtain ⟨_, g0⟩ := hf 0 _ v0 rfl cells9 rfl
  obtain ⟨_, g1⟩ := hf 1 _ v1 rfl cells2 rfl
  obtain ⟨_, g2⟩ := hf 2 _ v2 rfl cells9 rfl
  obtain ⟨_, g3⟩ := hf 3 _ v3 rfl cells47 rfl
  obtain ⟨_, g4⟩ := hf 4 _ v4 rfl cells9 rfl
  obtain ⟨_, g5⟩ := hf 5 _ v5 rfl cells3 rfl
  obtain ⟨_, g6⟩ := hf 6 _ v6 rfl cells9 rfl
  obtain ⟨_, g7⟩ := hf 7 _ v7 rfl cells36 rfl
  obtain ⟨_, g8⟩ := hf 8 _ v8 rfl cells3 rfl
  obtain ⟨_, g9⟩ := hf 9 _ v9 rfl cells4 rfl
  obtain ⟨_, g10⟩ := hf 10 _ v10 rfl cells9 rfl
  obtain ⟨_, g11⟩ := hf 11 _ v11 rfl cells3 rfl
  obtain ⟨_, g12⟩ := hf 12 _ v12 rfl cells48 rfl
  obtain ⟨_, g13⟩ := hf 13 _ v13 rfl cells3 rfl
  obtain ⟨_, g14⟩ := hf 14 _ v14 rfl cells3 rfl
  obtain ⟨_, g15⟩ := hf 15 _ v15 rfl cells3 rfl
  obtain ⟨_, g16⟩ := hf 16 _ v16 rfl cells3 rfl
  obtain ⟨_, g17⟩ := hf 17 _ v17 rfl cells9 rfl
  obtain ⟨_, g18⟩ := hf 18 _ v18 rfl cells3 rfl
  obtain ⟨_, g19⟩ := hf 19 _ v19 rfl cells36 rfl
  obtain ⟨_, g20⟩ := hf 20 _ v20 rfl cells3 rfl
  obtain ⟨_, g21⟩ := hf 21 _ v21 rfl cells47 rfl
  obtain ⟨_, g22⟩ := hf 22 _ v22 rfl cells46 rfl
  obtain ⟨_, g23⟩ := hf 23 _ v23 rfl cells4 rfl
  obtain ⟨x0, rfl, l0⟩ := str_of g0
  obtain ⟨x1, rfl, r1⟩ := int_of Try.underlying2 g1
  obtain ⟨x2, rfl, l2⟩ := str_of g2
  obtain ⟨o3, a3, r3⟩ := opt_of g3
  obtain ⟨x4, rfl, l4⟩ := str_of g4
  obtain ⟨x5, rfl, r5⟩ := int_of Try.underlying3 g5
  obtain ⟨x6, rfl, l6⟩ := str_of g6
  obtain ⟨o7, a7, l7⟩ := bytes_of g7
  obtain ⟨x8, rfl, r8⟩ := int_of Try.underlying3 g8
  obtain ⟨x9, rfl⟩ := bool_of g9
  obtain ⟨x10, rfl, l10⟩ := str_of g10
  obtain ⟨x11, rfl, r11⟩ := int_of Try.underlying3 g11
  obtain ⟨o12, a12, l12, k12⟩ := legals_of g12
  obtain ⟨x13, rfl, r13⟩ := int_of Try.underlying3 g13
  obtain ⟨x14, rfl, r14⟩ := int_of Try.underlying3 g14
  obtain ⟨x15, rfl, r15⟩ := int_of Try.underlying3 g15
  obtain ⟨x16, rfl, r16⟩ := int_of Try.underlying3 g16
  obtain ⟨x17, rfl, l17⟩ := str_of g17
  obtain ⟨x18, rfl, r18⟩ := int_of Try.underlying3 g18
  obtain ⟨o19, a19, l19⟩ := bytes_of g19
  obtain ⟨x20, rfl, r20⟩ := int_of Try.underlying3 g20
  obtain ⟨o21, a21, r21⟩ := opt_of g21
  obtain ⟨o22, a22, l22, k22, r22⟩ := seats_of g22
  obtain ⟨x23, rfl⟩ := bool_of g23
  exact ⟨⟨⟨x0, x1, x2, o3, x4, x5, x6, o7, x8, x13, x14, x15, x16, x17, x18, o19, x20, o21, o22, x23⟩, x9, x10, x11, o12, v3, v7, v12, v19, v21, v22⟩, rfl, ⟨a3, a7, a12, a19, a21, a22⟩,
    ⟨l0, l2, l4, l6, l7, l10, l17, l19, l12, k12, l22, k22⟩, ⟨r1, r3, r5, r8, r13, r14, r15, r16, r18, r20, r21, r22⟩⟩
theorem states_of (h : DataW.trod enc Try.prog W 0 (fun _ => true) true n 37 [v] = some y) :
    ∃ (ao : Option Addr) (cap : Nat) (zs : List ZIn), v = .slice ao zs.length cap ∧ (ao = none → cap = 0) ∧ zs.length ≤ cap ∧ ZsAt W (In W) v zs ∧ zs.length ≤ 9223372036854775807 ∧ (∀ z ∈ zs, ZLen z) ∧ ∀ z ∈ zs, ZRange z := by
  rcases rows_of (cells := ZIn.cells) (Pr := fun z => ZAt W (In W) z ∧ ZLen z ∧ ZRange z) Try.underlying37 cells50 (fun m cs y' h' => state_of cs h') h with rfl | ⟨a, cap, zs, rfl, h1, h2, h3⟩
  · exact ⟨none, 0, [], rfl, fun _ => rfl, Nat.le_refl _, ⟨none, 0, rfl, .inl (Nat.le_refl _)⟩, by simp, fun l hl => by simp at hl, fun l hl => by simp at hl⟩
  · refine ⟨some a, cap, zs, rfl, fun h => (by cases h), h1.1, ⟨some a, cap, rfl, ?_⟩, Nat.le_trans h1.1 h1.2, fun z hz => (h2 z hz).2.1, fun z hz => (h2 z hz).2.2⟩
    rcases h3 with h3 | ⟨h0, b, off, rfl, hb, hc⟩
    · exact .inl h3
    · refine .inr ⟨h0, b, off, rfl, hb, fun i hi => ?_⟩
      obtain ⟨z, p1, p2⟩ := hc i hi
      exact ⟨z, p1, p2, (h2 z (List.mem_of_getElem? p1)).1⟩
end
end Go.Proofs.Qxb6618929a
