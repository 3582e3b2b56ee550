/-
  A string's bytes appended, and where the row lies; slices.Index over strings; slices.Equal over cards.
-/
import Derived.Test.Qxb6618929aMeth2
import Derived.Lib.AppendStr
import Derived.Deep.AppendSrc
import Derived.BigQuiet
namespace Go.Proofs.Qxb6618929a
open Go Go.RowKit

theorem run_append_str_at {P : Program} (w : World) (base : Nat) (t u ty e : TypeId) (i : TypeInfo) (ht : P.underlying t = some (.slice e)) (hu : P.underlying u = some .string) (hi : P.info? e = some i) (hz : i.zero = some (.int .u8 0))
    (hsize : i.size = 1) (hby : i.bytes = 1) (v : Value) (n : Nat) (xs : List Value) (hown : w.ownsRow base e 1 v n xs) (s : ByteArray)
    (hbytes : n + s.size ≤ 140737488355328) (hbase : base ≤ w.heap.size) :
    ∃ v' w', (Builtin.append_ #[t, u] ty #[v, .string s]).run P w = .ok v' w' ∧ w'.ownsRow base e 1 v' (n + s.size) (xs ++ Lib.strCells s) ∧ w.grownBy w' v.ownBlock ∧ Moved w v v' := by
  obtain ⟨v', w', hr, h2, h3, h4⟩ := Lib.run_append_own_string (P := P) w base t u ty e i ht hu hi hz hsize hby v n xs hown s (by unfold maxLen; omega) hbytes hbase
  refine ⟨v', w', hr, h2, h3, ?_⟩
  have hxl : xs.length = n := by simpa using hown.1
  rcases hown.2 with ⟨rfl, rfl⟩ | ⟨g, cap, cur, rfl, hbg, hg, hnc, hcm, hcs, htake⟩
  · by_cases hm : s.size = 0
    · left
      rw [h4.2 ⟨rfl, hm⟩]
    · right
      have hx : xs = [] := List.eq_nil_of_length_eq_zero hxl
      subst hx
      have hr2 := run_append_grow_src (P := P) w t u ty e i (.int .u8 0) ht hi hz none 0 0 [] (run_firstCells_none w.drew i.size 0 0 0) (.string s) s.size (Go.byteCells s) (by rw [hsize]; exact Src.ofString w hu s) (by omega) (by omega) (by rw [hby]; exact growslice_fits (by omega) (by omega))
      rw [hr] at hr2
      injection hr2 with e1 e2
      rw [e1]
      intro k hk
      simp [Value.ownBlock] at hk
      omega
  · by_cases hroom : n + s.size ≤ cap
    · left
      have hcs' : cur.size = cap := by simpa using hcs
      have hr2 := Lib.run_append_room_string (P := P) w t u ty e i ht hu hi hsize g n cap cur hg s hroom (by omega)
      rw [hr] at hr2
      injection hr2 with e1 e2
      rw [e1]
      rfl
    · right
      have holds : ∀ j u, xs[j]? = some u → w.cell? ((⟨g, 0, none⟩ : Addr).add j) = some u := hown.cells (g := g) rfl
      have hr2 := Lib.run_append_grow_string (P := P) w t u ty e i (.int .u8 0) ht hu hi hz ⟨g, 0, none⟩ n cap xs (by rw [hsize]; simpa using hxl) holds s (by omega) (by omega) (by rw [hby]; exact growslice_fits (by omega) (by omega))
      rw [hr] at hr2
      injection hr2 with e1 e2
      rw [e1]
      intro k hk
      simp [Value.ownBlock] at hk
      omega

theorem wpList_append_str_at {P : Program} (w : World) {ops : Array Oper} {rest : List Oper} {o : Oper} {a : Act} {Q : Exit → Act → World → Prop} (hgd : o.guard = none) (sl x : Operand) (t u : TypeId)
    (ho : o.op = .call { callee := .builtin .append, args := #[sl, x], argTypes := #[t, u] })
    (base : Nat) (e : TypeId) (i : TypeInfo) (ht : P.underlying t = some (.slice e)) (hu : P.underlying u = some .string) (hi : P.info? e = some i) (hz : i.zero = some (.int .u8 0))
    (hsize : i.size = 1) (hby : i.bytes = 1)
    (v : Value) (n : Nat) (xs : List Value) (hs : a.eval sl = v) (hown : w.ownsRow base e 1 v n xs) (s : ByteArray) (hx : a.eval x = .string s)
    (hbytes : n + s.size ≤ 140737488355328) (hbase : base ≤ w.heap.size)
    (h : ∀ v' w', w'.ownsRow base e 1 v' (n + s.size) (xs ++ Lib.strCells s) → w.grownBy w' v.ownBlock → Moved w v v' → wpList P ops Q rest (a.put o.dst v') w') : wpList P ops Q (o :: rest) a w := by
  refine wpList_plain hgd fun K hK => ?_
  obtain ⟨v', w', hr, h2, h3, h4⟩ := run_append_str_at (P := P) w base t u o.type e i ht hu hi hz hsize hby v n xs hown s hbytes hbase
  unfold Oper.wp execOp
  simp only [ho, resolve, invoke, builtin, Sem.run_bind, Sem.run_pure, Result.andThen_ok, List.map_toArray, List.map_cons, List.map_nil, hs, hx, hr]
  exact hK _ _ (h v' w' h2 h3 h4)

/-- Where a string is found first: -1 if nowhere. -/
def whereIs (ts : List (List UInt8)) (t : List UInt8) : Int := match ts.findIdx? (· == t) with
  | some i => i
  | none => -1

theorem where_some {ts : List (List UInt8)} {t : List UInt8} {k : Nat} (hk : k < ts.length) (h : ∀ j, j < k → ts.getD j [] ≠ t) (he : ts.getD k [] = t) : whereIs ts t = k := by
  have : ts.findIdx? (· == t) = some k := by
    rw [List.findIdx?_eq_some_iff_getElem]
    refine ⟨hk, by simpa [List.getD, hk] using he, fun j hj => ?_⟩
    have := h j hj
    simp [List.getD, show j < ts.length by omega] at this
    simpa using this
  simp [whereIs, this]
theorem where_none {ts : List (List UInt8)} {t : List UInt8} (h : ∀ j, j < ts.length → ts.getD j [] ≠ t) : whereIs ts t = -1 := by
  have : ts.findIdx? (· == t) = none := by
    rw [List.findIdx?_eq_none_iff]
    intro x hx
    obtain ⟨j, hj, rfl⟩ := List.getElem_of_mem hx
    have := h j hj
    simp [List.getD, hj] at this
    simpa using this
  simp [whereIs, this]

theorem index69 (sv : Value) (ts : List (List UInt8)) (t : List UInt8) (w : World) (h : w.ownsRow 0 9 1 sv ts.length (ts.map encS)) (hn : ts.length ≤ 140737488355328) :
    Calls Try.prog 69 #[sv, encS t] w fun e w' => e = .returned (.int .i64 (whereIs ts t)) ∧ w' = w := by
  have key : (ts.length ≤ 0 ∧ sv = .slice none 0 0) ∨ ∃ g cap, sv = .slice (some ⟨g, 0, none⟩) ts.length cap ∧ Hid (∀ j, j < ts.length → w.cell? ⟨g, j, none⟩ = some (encS (ts.getD j []))) := by
    rcases h.2 with ⟨h0, hl⟩ | ⟨g, cap, cur, hv, _, hg, _, _, _, htake⟩
    · exact .inl ⟨by omega, h0⟩
    · refine .inr ⟨g, cap, hv, fun j hj => ?_⟩
      have hc := h.cells (g := g) (by rw [hv]; rfl) j (encS (ts.getD j [])) (by simp [List.getD, hj])
      rwa [Addr.add_lit, Nat.zero_add] at hc
  clear h
  unfold encS at *
  rcases key with ⟨h0, rfl⟩ | ⟨g, cap, rfl, HC⟩
  · have hw := hd (where_none (ts := ts) (t := t) (fun j hj => by omega))
    rw [hw.out]
    go_enter Try.func69, Try.ntmps69
    go_wp2
    go_loop [5, 8] (fun _ i => i = .int .i64 0) (fun _ _ => 0)
    case atStart => rfl
    case round =>
      subst hrel
      go_wp2
      go_ret
      exact ⟨rfl, rfl⟩
  · go_enter Try.func69, Try.ntmps69
    go_wp2
    go_loop [5, 8] (fun _ i => ∃ k : Nat, k ≤ ts.length ∧ i = .int .i64 k ∧ Hid (∀ j, j < k → ts.getD j [] ≠ t)) (fun _ i => ts.length - (intOf i).toNat)
    case atStart => exact ⟨0, Nat.zero_le _, rfl, fun j hj => by omega⟩
    case round =>
      obtain ⟨k, hk, rfl, HN⟩ := hrel
      by_cases hlt : k < ts.length
      · have hc := HC.out k hlt
        by_cases he : ts.getD k [] = t
        · have HW := hd (where_some hlt HN.out he)
          rw [he] at hc
          clear he
          go_wp2
          go_ret
          exact ⟨by rw [HW.out]; rfl, rfl⟩
        · have HN2 : Hid (∀ j, j < k + 1 → ts.getD j [] ≠ t) := fun j hj => by
            by_cases e : j = k
            · subst e; exact he
            · exact HN.out j (by omega)
          have hne : (t == ts.getD k []) = false := beq_false_of_ne (Ne.symm he)
          generalize ts.getD k [] = x at hc hne
          clear he
          go_wp2
          go_round
          case rel => exact ⟨k + 1, by omega, by go_num, HN2⟩
          case measure => simp [intOf]; omega
      · have HW := hd (where_none (ts := ts) (t := t) (fun j hj => HN.out j (by omega)))
        go_wp2
        go_ret
        exact ⟨by rw [HW.out]; rfl, rfl⟩
end Go.Proofs.Qxb6618929a
