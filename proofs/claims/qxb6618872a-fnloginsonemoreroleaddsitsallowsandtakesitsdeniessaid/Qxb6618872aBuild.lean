/-
  zzBuildPolicy: the compiled roles of a policy.
-/
import Derived.Test.Qxb6618872aRole
import Derived.Deep.RegionHeld3
import Derived.Deep.DeepAppendRoom
import Derived.Deep.AppendLies
import Derived.OwnWalk
namespace Go.Proofs.Qxb6618872a
open Go Go.RowKit

theorem buildSlice56 (nm : ByteArray) (a d : Option Nat) (w : World) :
    (Instr.buildSlice 58 1 #[(0, .agg (cells56 nm a d))]).run Try.prog w = .ok (.slice (some ⟨w.heap.size, 0, none⟩) 1 1) (w.alloc (.cells (cells56 nm a d) 56)) := by kernel_rfl
theorem info56 : (Try.prog.info? 56).map (fun i => (i.zero, i.size, decide (i.bytes ≤ 1024))) = some (some (.agg zero56), 30, true) := by kernel_rfl
theorem info56_parts : ∃ i, Try.prog.info? 56 = some i ∧ i.zero = some (.agg zero56) ∧ i.size = 30 ∧ i.bytes ≤ 1024 := by
  have h := info56
  cases hq : Try.prog.info? 56 with
  | none => simp [hq] at h
  | some i =>
    simp only [hq, Option.map_some, Option.some.injEq, Prod.mk.injEq, decide_eq_true_eq] at h
    exact ⟨i, rfl, h.1, h.2.1, h.2.2⟩

/-- A compiled role: her name and her two maps. -/
structure CR where
  nm : ByteArray
  a : Option Nat
  d : Option Nat
def CR.none : CR := ⟨ByteArray.empty, Option.none, Option.none⟩
def CR.cells (c : CR) : List Value := (cells56 c.nm c.a c.d).toList
theorem CR.len (c : CR) : c.cells.length = 30 := rfl

theorem flat_get : ∀ (ms : List CR) (i j : Nat), i < ms.length → j < 30 → (ms.flatMap CR.cells)[i * 30 + j]? = (ms.getD i CR.none).cells[j]?
  | [], i, j, h, _ => by simp at h
  | m :: ms, 0, j, _, hj => by
    rw [List.flatMap_cons, List.getElem?_append_left (by rw [CR.len]; omega)]
    simp
  | m :: ms, i + 1, j, h, hj => by
    rw [List.flatMap_cons, List.getElem?_append_right (by rw [CR.len]; omega), CR.len, show (i + 1) * 30 + j - 30 = i * 30 + j by omega, flat_get ms i j (by simpa using h) hj]
    simp

theorem flat_len (ms : List CR) : (ms.flatMap CR.cells).length = ms.length * 30 := by
  induction ms with
  | nil => simp
  | cons m ms ih => rw [List.flatMap_cons, List.length_append, CR.len, ih, List.length_cons]; omega

theorem SetV.below {w w' : World} {p : Option Nat} {n : Nat} {S} (h : SetV w p n S) (hb : Below w.heap.size w w') : SetV w' p n S := by
  rcases h with h | ⟨b, h1, h2⟩
  · exact .inl h
  · exact .inr ⟨b, h1, h2.of_block (hb.block b h2.lt)⟩

/-- The compiled role c is the role r compiled. -/
def Comp (w : World) (r : RIn) (c : CR) : Prop := c.nm = r.name ∧ SetV w c.a r.an (keysOf r.al) ∧ SetV w c.d r.dn (keysOf r.de)
theorem Comp.below {w w' : World} {r : RIn} {c : CR} (h : Comp w r c) (hb : Below w.heap.size w w') : Comp w' r c := ⟨h.1, h.2.1.below hb, h.2.2.below hb⟩

/-- The value is a pointer to the policy of the roles rs. -/
def PolAt (w : World) (p : Value) (rs : List RIn) : Prop :=
  ∃ (pb g cap : Nat) (ms : List CR), p = .pointer (some ⟨pb, 0, none⟩) ∧ pb < w.heap.size ∧ w.cell? ⟨pb, 0, none⟩ = some (.slice (some ⟨g, 0, none⟩) rs.length cap) ∧ g < w.heap.size ∧ ms.length = rs.length ∧
    (∀ i, i < rs.length → w.rangeAt g (i * 30) (ms.getD i CR.none).cells) ∧ ∀ i, i < rs.length → Comp w (rs.getD i RIn.none) (ms.getD i CR.none)

theorem PolAt.below {w w' : World} {p : Value} {rs : List RIn} (h : PolAt w p rs) (hb : Below w.heap.size w w') : PolAt w' p rs := by
  obtain ⟨pb, g, cap, ms, h1, h2, h3, h4, h5, h6, h7⟩ := h
  exact ⟨pb, g, cap, ms, h1, Nat.lt_of_lt_of_le h2 hb.size, (hb.cell (p := ⟨pb, 0, none⟩) h2).trans h3, Nat.lt_of_lt_of_le h4 hb.size, h5, fun i hi j v hv => (hb.cell (p := ⟨g, i * 30 + j, none⟩) h4).trans (h6 i hi j v hv), fun i hi => (h7 i hi).below hb⟩

theorem range_of_owns {w : World} {base g k cap : Nat} {ms : List CR} (h : w.ownsRow base 56 30 (.slice (some ⟨g, 0, none⟩) k cap) k (ms.flatMap CR.cells)) (hm : ms.length = k) :
    g < w.heap.size ∧ ∀ i, i < k → w.rangeAt g (i * 30) (ms.getD i CR.none).cells := by
  rcases h.2 with ⟨h0, _⟩ | ⟨g', cap', cur, hv, hbg, hg, hnc, hcm, hcs, htake⟩
  · cases h0
  · cases hv
    refine ⟨?_, fun i hi j v hv => ?_⟩
    · rcases Nat.lt_or_ge g w.heap.size with hlt | hge
      · exact hlt
      · rw [Array.getElem?_eq_none hge] at hg; cases hg
    · rw [cell_of_row w g (i * 30 + j) cur 56 (0, 0) hg]
      have hj : j < 30 := by
        rcases Nat.lt_or_ge j 30 with h | h
        · exact h
        · rw [List.getElem?_eq_none (by rw [CR.len]; exact h)] at hv; cases hv
      rw [← flat_get ms i j (by omega) hj, ← htake, List.getElem?_take_of_lt (by omega)] at hv
      simpa using hv

theorem step_append_spare {P : Program} (w : World) {ops : Array Oper} {o : Oper} {a : Act} {K : Act → World → Prop} {Q : Exit → Act → World → Prop} {E : Prop} (hgd : o.guard = none) (s x : Operand) (t : TypeId)
    (ho : o.op = .call { callee := .builtin .append, args := #[s, x], argTypes := #[t, t] })
    (base : Nat) (e : TypeId) (i : TypeInfo) (size : Nat) (ht : P.underlying t = some (.slice e)) (hi : P.info? e = some i) (hsize : i.size = size)
    (g n cap : Nat) (xs : List Value) (hs : a.eval s = .slice (some ⟨g, 0, none⟩) n cap) (hown : w.ownsRow base e size (.slice (some ⟨g, 0, none⟩) n cap) n xs)
    (ad : Addr) (m c : Nat) (news : List Value) (hx : a.eval x = .slice (some ad) m c) (hl : news.length = m * size) (hnews : ∀ j u, news[j]? = some u → w.cell? (ad.add j) = some u) (h1 : ∀ u ∈ news, u.oneCell' = true)
    (hroom : n + m ≤ cap)
    (h : ∀ w', w'.ownsRow base e size (.slice (some ⟨g, 0, none⟩) (n + m) cap) (n + m) (xs ++ news) → w.grownBy w' (some g) → K (a.put o.dst (.slice (some ⟨g, 0, none⟩) (n + m) cap)) w') :
    if Region.wanted o (yielded ops a.tmps) = true then Oper.wp P o a w K Q else E := by
  have hw : Region.wanted o (yielded ops a.tmps) = true := by simp [Region.wanted, hgd]
  rw [if_pos hw]
  exact wp_append_own_spare w s x t ho base e i size ht hi hsize g n cap xs hs hown ad m c news hx hl hnews h1 hroom h
end Go.Proofs.Qxb6618872a
