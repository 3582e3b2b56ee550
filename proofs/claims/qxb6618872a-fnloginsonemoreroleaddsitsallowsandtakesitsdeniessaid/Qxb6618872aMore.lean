/-
  The longer list of roles: laid by two appends.
-/
import Derived.Test.Qxb6618872aNamed
namespace Go.Proofs.Qxb6618872a
open Go Go.RowKit

theorem info25 : (Try.prog.info? 25).map (fun i => (i.zero, i.size, i.bytes)) = some (some (.agg #[.string ByteArray.empty, .slice none 0 0, .slice none 0 0]), 3, 64) := by kernel_rfl
theorem info25_parts : ∃ i, Try.prog.info? 25 = some i ∧ i.zero = some (.agg #[.string ByteArray.empty, .slice none 0 0, .slice none 0 0]) ∧ i.size = 3 ∧ i.bytes = 64 := by
  have h := info25
  cases hq : Try.prog.info? 25 with
  | none => simp [hq] at h
  | some i =>
    simp only [hq, Option.map_some, Option.some.injEq, Prod.mk.injEq] at h
    exact ⟨i, rfl, h.1, h.2.1, h.2.2⟩

theorem RIn.len (r : RIn) : r.cells.length = 3 := rfl
theorem RIn.one (r : RIn) : ∀ u ∈ r.cells, u.oneCell' = true := fun u hu => by
  simp only [RIn.cells, List.mem_cons, List.not_mem_nil, or_false] at hu
  rcases hu with rfl | rfl | rfl <;> rfl

theorem rflat_len (rs : List RIn) : (rs.flatMap RIn.cells).length = rs.length * 3 := by
  induction rs with
  | nil => simp
  | cons m ms ih => rw [List.flatMap_cons, List.length_append, RIn.len, ih, List.length_cons]; omega

theorem rflat_get : ∀ (rs : List RIn) (i j : Nat), i < rs.length → j < 3 → (rs.flatMap RIn.cells)[i * 3 + j]? = (rs.getD i RIn.none).cells[j]?
  | [], i, j, h, _ => by simp at h
  | m :: ms, 0, j, _, hj => by
    rw [List.flatMap_cons, List.getElem?_append_left (by rw [RIn.len]; omega)]
    simp
  | m :: ms, i + 1, j, h, hj => by
    rw [List.flatMap_cons, List.getElem?_append_right (by rw [RIn.len]; omega), RIn.len, show (i + 1) * 3 + j - 3 = i * 3 + j by omega, rflat_get ms i j (by simpa using h) hj]
    simp

theorem rflat_one (rs : List RIn) : ∀ u ∈ rs.flatMap RIn.cells, u.oneCell' = true := fun u hu => by
  obtain ⟨r, _, h⟩ := List.mem_flatMap.1 hu
  exact r.one u h

theorem roles_news {w : World} {b off n : Nat} {rs : List RIn} (hl : rs.length = n)
    (hc : ∀ i, i < n → w.cell? ⟨b, off + i * 3, none⟩ = some (.string (rs.getD i RIn.none).name) ∧
      w.cell? ⟨b, off + i * 3 + 1, none⟩ = some (.slice (rs.getD i RIn.none).aa (rs.getD i RIn.none).an (rs.getD i RIn.none).ac) ∧
      w.cell? ⟨b, off + i * 3 + 2, none⟩ = some (.slice (rs.getD i RIn.none).da (rs.getD i RIn.none).dn (rs.getD i RIn.none).dc)) :
    ∀ j u, (rs.flatMap RIn.cells)[j]? = some u → w.cell? ((⟨b, off, none⟩ : Addr).add j) = some u := fun j u hu => by
  rw [Addr.add_mid]
  have hj : j < n * 3 := by
    rcases Nat.lt_or_ge j (n * 3) with h | h
    · exact h
    · rw [List.getElem?_eq_none (by rw [rflat_len]; omega)] at hu; cases hu
  obtain ⟨i, q, hq, rfl⟩ : ∃ i q, q < 3 ∧ j = i * 3 + q := ⟨j / 3, j % 3, Nat.mod_lt _ (by omega), by omega⟩
  rw [rflat_get rs i q (by omega) hq] at hu
  have h := hc i (by omega)
  have hq3 : q = 0 ∨ q = 1 ∨ q = 2 := by omega
  rcases hq3 with rfl | rfl | rfl
  · simp only [RIn.cells, List.getElem?_cons_zero, Option.some.injEq] at hu
    rw [← hu]; exact h.1
  · simp only [RIn.cells, List.getElem?_cons_succ, List.getElem?_cons_zero, Option.some.injEq] at hu
    rw [← hu]; exact h.2.1
  · simp only [RIn.cells, List.getElem?_cons_succ, List.getElem?_cons_zero, Option.some.injEq] at hu
    rw [← hu]; exact h.2.2

theorem roles_of_owns {w : World} {base g m cap : Nat} {rs : List RIn} (h : w.ownsRow base 25 3 (.slice (some ⟨g, 0, none⟩) m cap) m (rs.flatMap RIn.cells)) (hl : rs.length = m) (hok : ∀ r ∈ rs, r.ok w) : RolesAt w (some ⟨g, 0, none⟩) m rs := by
  refine ⟨hl, hok, fun _ => ⟨g, 0, owns_lt h, rfl, ?_⟩⟩
  rcases h.2 with ⟨h0, _⟩ | ⟨g', cap', cur, hv, hbg, hg, hnc, hcm, hcs, htake⟩
  · cases h0
  · cases hv
    have key : ∀ i j, i < m → j < 3 → w.cell? ⟨g, 0 + i * 3 + j, none⟩ = (rs.getD i RIn.none).cells[j]? := fun i j hi hj => by
      rw [cell_of_row w g (0 + i * 3 + j) cur 25 (0, 0) hg, ← rflat_get rs i j (by omega) hj, ← htake, List.getElem?_take_of_lt (by omega)]
      simp
    exact fun i hi => ⟨key i 0 hi (by omega), key i 1 hi (by omega), key i 2 hi (by omega)⟩

theorem wpList_append_nothing {ops : Array Oper} {rest : List Oper} {o : Oper} {a : Act} {w : World} {Q : Exit → Act → World → Prop} (hgd : o.guard = none) (s x : Operand)
    (ho : o.op = .call { callee := .builtin .append, args := #[s, x], argTypes := #[22, 22] }) (ad : Addr) (n cap : Nat) (hs : a.eval s = .slice (some ad) n cap) (hle : n ≤ cap) (ao : Option Addr) (c : Nat) (hx : a.eval x = .slice ao 0 c)
    (h : wpList Try.prog ops Q rest (a.put o.dst (.slice (some ad) n cap)) w) : wpList Try.prog ops Q (o :: rest) a w :=
  wpList_plain hgd fun K hK => by
    obtain ⟨i, hi, _⟩ := info25_parts
    have hr : (Builtin.append_ #[22, 22] o.type #[.slice (some ad) n cap, .slice ao 0 c]).run Try.prog w = .ok (.slice (some ad) n cap) w := by
      cases ao <;> simp [Builtin.append_, run_underlying Try.underlying22, sizeOf, typeInfo, hi, hle, storeCells, Builtin.lenOf, Builtin.firstCells, loadCells, loadCellsFrom]
    unfold Oper.wp execOp
    simp only [ho, resolve, invoke, builtin, Sem.run_bind, Sem.run_pure, Result.andThen_ok, List.map_toArray, List.map_cons, List.map_nil, hs, hx, hr]
    exact hK _ _ h
end Go.Proofs.Qxb6618872a
