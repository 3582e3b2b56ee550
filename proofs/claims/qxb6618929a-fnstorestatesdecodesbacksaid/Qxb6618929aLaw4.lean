/-
  FnStoreStatesDecodesBack: the walk.
-/
import Derived.Test.Qxb6618929aBytes13
import Derived.Test.Qxb6618929aDec10
import Derived.Test.Qxb6618929aBuild4
import Derived.Test.Qxb6618929aFrame
import Derived.Deep.WholeRow
namespace Go.Proofs.Qxb6618929a
open Go Go.RowKit

attribute [local go_sem] qz37 qs37

theorem Fr.below {B : Nat} {R : Nat → Prop} {w w' : World} (h : Fr R w w') (hr : ∀ k, k < B → R k) : Below B w w' := ⟨h.os, h.tape, h.output, h.size, fun k hk => h.block k (hr k hk)⟩
theorem row_of_own {w : World} {v : Value} {l : List UInt8} (h : w.ownsRow 0 5 1 v l.length (Lib.byteCells l)) : RowAt w (In w) v l := by
  rcases h.2 with ⟨rfl, h0⟩ | ⟨g, cap, cur, rfl, _, hg, _⟩
  · exact ⟨none, 0, by rw [h0], .inl (Nat.le_of_eq h0)⟩
  · exact (cards_of_own h rfl (R := In w) (Array.getElem?_eq_some_iff.1 hg).1).row
theorem room_of_own {w : World} {v : Value} {l : List UInt8} (h : w.ownsRow 0 5 1 v l.length (Lib.byteCells l)) : Room v := fun a n c hv => by
  rcases h.2 with ⟨rfl, h0⟩ | ⟨g, cap, cur, rfl, _, _, hc, _⟩
  · injection hv with h1 h2 h3; omega
  · injection hv with h1 h2 h3; omega
theorem RowAt.up {w w' : World} {v : Value} {l : List UInt8} (h : RowAt w (In w) v l) (hb : Below w.heap.size w w') : RowAt w' (In w') v l := by
  obtain ⟨ao, cap, h1, h2⟩ := h
  refine ⟨ao, cap, h1, ?_⟩
  rcases h2 with h2 | ⟨h0, b, off, h3, h4, h5⟩
  · exact .inl h2
  · exact .inr ⟨h0, b, off, h3, Nat.lt_of_lt_of_le h4 hb.size, fun j hj => (hb.cell (p := ⟨b, off + j, none⟩) h4).trans (h5.out j hj)⟩
theorem RowAt.at {w : World} {R : Nat → Prop} {a : Option Addr} {n c : Nat} {l : List UInt8} (h : RowAt w R (.slice a n c) l) {j : Nat} (hj : j < l.length) : ∃ b o, a = some ⟨b, o, none⟩ ∧ w.cell? ⟨b, o + j, none⟩ = some (.int .u8 (l.getD j 0).toNat) := by
  obtain ⟨ao, cap, h1, h2⟩ := h
  obtain rfl : a = ao := by injection h1
  rcases h2 with h2 | ⟨_, b, off, h3, _, h5⟩
  · omega
  · exact ⟨b, off, h3, h5.out j hj⟩
theorem stored_len (ds : List StateD) (ok : ∀ d ∈ ds, StateOk d) (hn : ds.length ≤ 4097) : (stored ds).length ≤ 140737488355328 := by
  have := (lenStates ds [] ([], []) ok (by simp only [List.length_nil]; omega)).1
  unfold stored
  simp only [List.length_nil] at this
  omega
theorem getD_left (a b : List UInt8) (j : Nat) (h : j < a.length) : (a ++ b).getD j 0 = a.getD j 0 := by simp [List.getD, List.getElem?_append_left h]

/-- A store of a whole value into a block that was made last, the world behind it under a name. -/
theorem wpList_store_new {P : Program} {ops : Array Oper} {rest : List Oper} {op : Oper} {a : Act} {w : World} {Q : Exit → Act → World → Prop} (hgd : op.guard = none) (ty : TypeId) (x y : Operand) (ho : op.op = .store ty x y)
    (c c' : Array Value) (hx : a.eval x = .pointer (some ⟨w.heap.size, 0, none⟩)) (hy : a.eval y = .agg c') (hi : (P.info? ty).map (·.size) = some c'.size) (hc : c.size = c'.size) (h1 : c'.all (·.oneCell') = true)
    (h : ∀ w', Hid (w' = w.alloc (.cells c' ty)) → wpList P ops Q rest (a.put op.dst undef) w') : wpList P ops Q (op :: rest) a (w.alloc (.cells c ty)) :=
  wpList_plain hgd fun K hK => by
    unfold Oper.wp execOp
    simp only [ho, hx, hy, Instr.storeAt, Instr.sureAddr, Sem.run_bind, Sem.run_pure, Result.andThen_ok, run_storeVar_new w ty c c' hi hc h1]
    exact hK _ _ (h _ rfl)
theorem range_new (w : World) (cs : List Value) (t : TypeId) : (w.alloc (.cells cs.toArray t)).rangeAt w.heap.size 0 cs := fun j v hv => by
  rw [Nat.zero_add, cell_of_row _ w.heap.size j _ t (0, 0) (heap_alloc_new w _)]
  simpa using hv
theorem zcells_one {w : World} {R : Nat → Prop} {z : ZIn} (h : ZAt w R z) : z.cells.toArray.all (·.oneCell') = true := by
  obtain ⟨o3, h3⟩ := opt_form h.eseat
  obtain ⟨o21, h21⟩ := opt_form h.toAct
  obtain ⟨a7, b7, c7, h7⟩ := cards_form h.eboard
  obtain ⟨a19, b19, c19, h19⟩ := cards_form h.board
  obtain ⟨a22, b22, c22, h22⟩ := seats_form h.seats
  obtain ⟨a12, c12, h12, _⟩ := h.legal.row
  simp [ZIn.cells, encS, Value.oneCell', h3, h21, h7, h19, h22, h12]

/-! ### Plain -/
/-- The first k states. -/
def statesTo (ds : List StateD) (k : Nat) : St := putStates (ds.take k) [] ([], [])
def lastTo (ds : List StateD) (k : Nat) : List SeatD := lastSeats [] (ds.take k)
theorem statesTo_step {ds : List StateD} {k : Nat} {d : StateD} (hd : ds[k]? = some d) : statesTo ds (k + 1) = ((statesTo ds k).1 ++ (putState d (lastTo ds k) ([], (statesTo ds k).2)).1, (putState d (lastTo ds k) ([], (statesTo ds k).2)).2) := by
  have e : statesTo ds (k + 1) = putState d (lastTo ds k) (statesTo ds k) := by
    unfold statesTo lastTo
    rw [List.take_add_one, hd, Option.toList_some, putStates_snoc]
  rw [e]
  exact app_split (apps_State d (lastTo ds k)) _
theorem lastTo_step {ds : List StateD} {k : Nat} {d : StateD} (hd : ds[k]? = some d) : lastTo ds (k + 1) = d.seats.getD [] := by
  unfold lastTo
  rw [List.take_add_one, hd, Option.toList_some, lastSeats_snoc]
theorem statesTo_rest (ds : List StateD) (k : Nat) : ∃ c, stored ds = (statesTo ds k).1 ++ c := by
  obtain ⟨bf, h⟩ := putStates_append (ds.take k) (ds.drop k) [] ([], [])
  rw [List.take_append_drop] at h
  unfold stored
  rw [h, app_split (apps_States (ds.drop k) bf)]
  exact ⟨_, rfl⟩
theorem state_here {ds : List StateD} {bl : List UInt8} {k : Nat} {d : StateD} (hd : ds[k]? = some d) : ∃ r, (bl ++ stored ds).drop (bl.length + (statesTo ds k).1.length) = (putState d (lastTo ds k) ([], (statesTo ds k).2)).1 ++ r := by
  obtain ⟨c, hc⟩ := statesTo_rest ds (k + 1)
  rw [statesTo_step hd] at hc
  refine ⟨c, ?_⟩
  rw [← List.drop_drop, List.drop_left, hc]
  simp only [List.append_assoc, List.drop_left]

/-- What lies where behind the calls. -/
structure Laid4 (w wc : World) (bl : List UInt8) (zs : List ZIn) (v5 v6 : Value) : Prop where
  below : Below w.heap.size w wc
  pre : RowAt wc (In wc) v5 bl
  whole : RowAt wc (In wc) v6 (bl ++ stored (zs.map fun z : ZIn => z.d))
  room : Room v6

/-- Behind k states. -/
structure DIn (W wr : World) (D : Nat) (out : List UInt8) (p : Nat) (ts : List (List UInt8)) (bv sv vbf : Value) (bf : List SeatD) (N : Nat → Prop) : Prop where
  dec : Dec wr D (fun i => i < D ∨ N i) out p ts bv sv
  fr : Fr (fun i => i < D) W wr
  before : BeforeAt wr N vbf bf

set_option linter.unusedSimpArgs false in
set_option maxHeartbeats 40000000 in
set_option maxRecDepth 100000 in
theorem law4 (vb : Value) (ao : Option Addr) (cap : Nat) (bs : Option (List UInt8)) (zs : List ZIn) (w : World) (hb : CardsAt w (In w) vb bs) (hbl : (bs.getD []).length ≤ 9223372036854775807)
    (h : ZsAt w (In w) (.slice ao zs.length cap) zs) (hzl : zs.length ≤ 9223372036854775807) (hlen : ∀ z ∈ zs, ZLen z) (hr : ∀ z ∈ zs, ZRange z) :
    Calls Try.prog 4 #[vb, .slice ao zs.length cap] w fun e w' => e = .returned (.bool true) ∧ Below w.heap.size w w' := by
  obtain ⟨bo, bn, bc, hvb⟩ := cards_form hb
  subst hvb
  have HB := hd hb
  have HZ := hd h
  have HR := hd hr
  have H13 := hd (zzBytes13 (.slice bo bn bc) (.slice ao zs.length cap) bs zs (In w) (In w) w hb hbl h hzl hlen)
  have H14 := hd (statesBytes (.slice bo bn bc) (.slice ao zs.length cap) bs zs (In w) (In w) w hb hbl h hzl hlen)
  clear hb h hlen hr hbl
  go_enter Try.func4, Try.ntmps4
  go_upto_if 15 with (go_at_call 13; refine H13.out.mono ?_; rintro e w' ⟨⟨r, rfl⟩, hw⟩; obtain rfl := hw.symm)
  cases r with
  | false =>
    go_wp2
    go_ret
    exact ⟨rfl, Below.refl _ _⟩
  | true =>
    go_upto_if 19 with (go_at_call 14; refine H14.out.mono ?_; rintro e w' ⟨⟨r, rfl, h0, h1, HS⟩, hw⟩; obtain rfl := hw.symm)
    by_cases hbig : 1048576 < r
    · have d1 : decide ((1048576 : Int) < r) = true := by simp; omega
      go_wp2
      go_ret
      exact ⟨rfl, Below.refl _ _⟩
    have d1 : decide ((1048576 : Int) < r) = false := by simp; omega
    obtain ⟨s1, s2, s3⟩ := HS.out (by omega)
    have HOK : Hid (∀ z ∈ zs, ZOk z) := fun z hz => (s3 z hz).ok (HR.out z hz)
    have HSO : Hid (∀ d ∈ (zs.map fun z : ZIn => z.d), StateOk d) := fun d hd => by
      obtain ⟨z, hz, rfl⟩ := List.mem_map.1 hd
      exact (HOK.out z hz).state
    have hzn : zs.length ≤ 4096 := by omega
    clear HS s2 s3 HR H13 H14 h0 h1
    have HC1 := hd (cloneBytes (.slice bo bn bc) bs (In w) w HB.out (Nat.le_succ_of_le s1))
    go_upto_region 6 with (go_at_call 15; refine HC1.out.mono ?_; rintro e W1 ⟨v5, rfl, o5, n5, b1⟩)
    clear d1 hbig
    have HO5 := hd (row_of_own o5)
    have HB1 := hd b1
    have HC2 := hd (cloneBytes (.slice bo bn bc) bs (In w) W1 (HB.out.kept (Below.sameOf b1 (fun _ h => h))) (Nat.le_succ_of_le s1))
    clear HC1 o5 n5 b1
    go_upto_region 7 with (first
      | (go_at_call 16; refine HC4.out.mono ?_; rintro e W4 ⟨v6, rfl, o6, n6, f6⟩)
      | (go_at_call 17; refine HC3.out.mono ?_; rintro e W3 ⟨v25, rfl, u25, b3⟩; have HB3 := hd b3; have HC4 := hd (storeStates (fun i => i < W1.heap.size ∨ (W2.heap.size ≤ i ∧ i < W3.heap.size)) v23 v25 (bs.getD []) (zs.map fun z : ZIn => z.d) W3 (own_kept HO23.out.1 (fun i hi => b3.block i (own_lt HO23.out.1 i hi))) (Nat.le_succ_of_le s1) (fun i hi => by have := b3.size; have h2 := HB2.out.size; omega) (fun i hi hn => by have h1 := HO23.out.2 i hi; have h2 := own_lt HO23.out.1 i hi; omega) (u25.more (fun i hi => .inr hi)).states HSO.out (by simp; omega)); clear u25 b3 HC3)
      | (go_at_call 15; refine HC2.out.mono ?_; rintro e W2 ⟨v23, rfl, o23, n23, b2⟩; have HB2 := hd b2; have HW2 := hd (below_chain HB1.out b2); have HO23 := hd (And.intro o23 n23); have HC3 := hd (buildStates (.slice ao zs.length cap) zs (In w) W2 (HZ.out.kept (Below.sameOf HW2.out (fun _ h => h))) (fun i hi => Nat.lt_of_lt_of_le hi HW2.out.size) HOK.out (by omega)); clear o23 n23 b2 HC2))
    have HLD : Hid (Laid4 w W4 (bs.getD []) zs v5 v6) := by
      have h2 : Below W1.heap.size W1 W3 := below_chain HB2.out HB3.out
      have h4 : Below W1.heap.size W1 W4 := h2.trans (f6.below (fun _ h => .inl h))
      exact ⟨below_chain HB1.out h4, HO5.out.up h4, row_of_own o6, room_of_own o6⟩
    clear HC4 o6 n6 f6 HO23 HB2 HB3 HW2 HO5 HB1
    obtain ⟨a5, c5, hv5, -⟩ := HLD.out.pre
    obtain ⟨a6, c6, hv6, -⟩ := HLD.out.whole
    subst hv5 hv6
    have hst := stored_len (zs.map fun z : ZIn => z.d) HSO.out (by simp; omega)
    have hwl : (bs.getD [] ++ stored (zs.map fun z : ZIn => z.d)).length = (bs.getD []).length + (stored (zs.map fun z : ZIn => z.d)).length := List.length_append
    have HGL : Hid (∀ j, j < (bs.getD []).length → (bs.getD [] ++ stored (zs.map fun z : ZIn => z.d)).getD j 0 = (bs.getD []).getD j 0) := fun j hj => getD_left _ _ j hj
    have HP := hd HLD.out.pre
    have HWH := hd HLD.out.whole
    have HRM := hd HLD.out.room
    have HBL := hd HLD.out.below
    have HEND : Hid ((bs.getD []).length + (statesTo (zs.map fun z : ZIn => z.d) zs.length).1.length = (bs.getD [] ++ stored (zs.map fun z : ZIn => z.d)).length) := by
      show _ = _
      rw [hwl]
      unfold statesTo stored
      rw [List.take_of_length_le (by simp)]
    have HHERE : Hid (∀ k d, (zs.map fun z : ZIn => z.d)[k]? = some d → ∃ r, (bs.getD [] ++ stored (zs.map fun z : ZIn => z.d)).drop ((bs.getD []).length + (statesTo (zs.map fun z : ZIn => z.d) k).1.length) = (putState d (lastTo (zs.map fun z : ZIn => z.d) k) ([], (statesTo (zs.map fun z : ZIn => z.d) k).2)).1 ++ r) := fun k d hd => state_here hd
    clear HLD
    generalize hl5 : bs.getD [] = l5 at *
    generalize hl6 : l5 ++ stored (zs.map fun z : ZIn => z.d) = l6 at *
    have hw6 : l6.length ≤ 140737489403904 := by omega
    have hle : l5.length ≤ l6.length := by omega
    have d2 : decide (l6.length < l5.length) = false := by simp; omega
    clear hl5 hl6 hwl hst
    go_wp2
    go_loopw [7, 34] (fun _ i wr => ∃ j : Nat, j ≤ l5.length ∧ i = .int .i64 j ∧ ∃ m, wr = W4.drewN m) (fun _ i _ => l5.length - (intOf i).toNat)
    case atStart => exact ⟨0, Nat.zero_le _, rfl, 0, rfl⟩
    case round => as_aux_lemma =>
      obtain ⟨j, hj, rfl, m, rfl⟩ := hrel
      by_cases hlt : j < l5.length
      · have h97 : j < l6.length := by omega
        obtain ⟨b5, o5, rfl, e5⟩ := HP.out.at hlt
        obtain ⟨b6, o6, rfl, e6⟩ := HWH.out.at h97
        rw [HGL.out j hlt] at e6
        generalize l5.getD j 0 = x at e5 e6
        go_wp2
        go_quiet (fail)
        go_wp2
        go_roundw
        case rel => exact ⟨j + 1, by omega, by go_num, _, rfl⟩
        case measure => simp [intOf]; omega
      · obtain rfl : j = l5.length := by omega
        clear hlt hj HGL HP
        generalize hWc : W4.drewN m = Wc
        have HLc : Hid (Below w.heap.size w Wc ∧ RowAt Wc (In Wc) (.slice a6 l6.length c6) l6) := by
          rw [← hWc]
          exact ⟨HBL.out.trans ⟨rfl, rfl, rfl, Nat.le_refl _, fun _ _ => rfl⟩, HWH.out⟩
        clear hWc HWH HBL
        have HD0 : Hid (DIn (Wc.alloc (.cells #[.slice a6 l6.length c6, .int .i64 l5.length, .slice none 0 0, .bool true] 45)) (Wc.alloc (.cells #[.slice a6 l6.length c6, .int .i64 l5.length, .slice none 0 0, .bool true] 45)) Wc.heap.size l6 l5.length [] (.slice a6 l6.length c6) (.slice none 0 0) (.slice none 0 0) [] (fun _ => False)) :=
          ⟨⟨heap_alloc_new Wc _, (HLc.out.2.kept (fun i hi => Below.heap_alloc Wc _ i hi)).more (fun i hi => .inl hi), World.ownsRow_nil _ 0 9 1, fun i hi => by simp [Value.ownBlock] at hi, fun hi => by rcases hi with hi | hi; exact absurd hi (Nat.lt_irrefl _); exact hi, fun i hi => by rcases hi with hi | hi; (simp; omega); exact hi.elim⟩, Fr.refl _ _, none, 0, rfl, .inl (Nat.le_refl _)⟩
        have HWB : Hid (Below Wc.heap.size Wc (Wc.alloc (.cells #[.slice a6 l6.length c6, .int .i64 l5.length, .slice none 0 0, .bool true] 45))) := (Below.refl _ _).alloc (Nat.le_refl _) _
        have HDW : Hid (w.heap.size ≤ Wc.heap.size) := HLc.out.1.size
        go_wp2
        generalize Wc.alloc (.cells #[.slice a6 l6.length c6, .int .i64 l5.length, .slice none 0 0, .bool true] 45) = W at HD0 HWB ⊢
        obtain ⟨D, HDE⟩ : ∃ D, Hid (Wc.heap.size = D) := ⟨_, rfl⟩
        rw [HDE.out] at HD0 HWB HDW ⊢
        have HWW : Hid (Below w.heap.size w W) := HLc.out.1.trans (HWB.out.mono HDW.out)
        go_loopw [9, 10, 11, 53] (fun vb' _ _ i wr => ∃ k : Nat, k ≤ zs.length ∧ i = .int .i64 k ∧ Hid (∃ N sv, DIn W wr D l6 (l5.length + (statesTo (zs.map fun z : ZIn => z.d) k).1.length) (statesTo (zs.map fun z : ZIn => z.d) k).2 (.slice a6 l6.length c6) sv vb' (lastTo (zs.map fun z : ZIn => z.d) k) N)) (fun _ _ _ i _ => zs.length - (intOf i).toNat)
        case atStart => exact ⟨0, Nat.zero_le _, rfl, fun _ => False, _, HD0.out⟩
        case round => as_aux_lemma =>
          obtain ⟨k, hk, rfl, HI⟩ := hrel
          obtain ⟨N, svk, hI⟩ := HI.out
          have HS := hd hI
          clear hI HI HD0
          have HBR : Hid (∀ w', Fr (fun i => i < D) W w' → Below w.heap.size w w') := fun w' hf => HWW.out.trans (hf.below (fun i hi => Nat.lt_of_lt_of_le hi HDW.out))
          by_cases hkl : k < zs.length
          · obtain ⟨b, off, z, hzk, rfl, HRG, HZE⟩ : ∃ b off z, zs[k]? = some z ∧ ao = some ⟨b, off, none⟩ ∧ Hid (b < w.heap.size ∧ w.rangeAt b (off + k * 24) z.cells) ∧ Hid (ZAt w (In w) z) := by
              obtain ⟨ao', cap', h1, h2⟩ := HZ.out
              obtain rfl : ao = ao' := by injection h1
              rcases h2 with h2 | ⟨_, b, off, h4, h6, h5⟩
              · omega
              · obtain ⟨z, p1, p2, p3⟩ := h5.out k hkl
                exact ⟨b, off, z, p1, h4, ⟨h6, p2⟩, p3⟩
            have hdk : (zs.map fun z : ZIn => z.d)[k]? = some z.d := by rw [List.getElem?_map, hzk]; rfl
            obtain ⟨r, hr⟩ := HHERE.out k z.d hdk
            have HST := hd (statesTo_step hdk)
            have HLT := hd (lastTo_step hdk)
            have HSK := hd (HOK.out z (List.mem_of_getElem? hzk)).state
            have hokt : ∀ d ∈ (zs.map fun z : ZIn => z.d).take k, StateOk d := fun d hd => HSO.out d (List.mem_of_mem_take hd)
            have hlb : (lastTo (zs.map fun z : ZIn => z.d) k).length ≤ 10923 := lastSeats_len _ [] (by simp) hokt
            have hlt : (statesTo (zs.map fun z : ZIn => z.d) k).2.length + 11000 ≤ 1073741824 := by
              have := (lenStates ((zs.map fun z : ZIn => z.d).take k) [] ([], []) hokt (by simp; omega)).2
              unfold statesTo
              simp at this
              omega
            have CS := hd (d_state D _ N l6 _ _ _ svk _ z.d _ r wr HS.out.dec hw6 HRM.out (fun i hi => .inr hi) HS.out.before hlb HSK.out hlt hr)
            obtain ⟨va, vn, vc, hvf⟩ : ∃ va vn vc, u9 = .slice va vn vc := by
              obtain ⟨va, vc, hv, _⟩ := HS.out.before
              exact ⟨va, _, vc, hv⟩
            subst hvf
            clear hr hokt hlb hlt hdk hzk
            go_upto_region 21 with (first
              | (refine wpList_store_new rfl 50 _ _ rfl #[.string ⟨#[]⟩, .int .i64 0, .string ⟨#[]⟩, .pointer none, .string ⟨#[]⟩, .int .i64 0, .string ⟨#[]⟩, .slice none 0 0, .int .i64 0, .bool false, .string ⟨#[]⟩, .int .i64 0, .slice none 0 0, .int .i64 0, .int .i64 0, .int .i64 0, .int .i64 0, .string ⟨#[]⟩, .int .i64 0, .slice none 0 0, .int .i64 0, .pointer none, .slice none 0 0, .bool false] zg.cells.toArray rfl rfl Try.siz50 rfl HON.out ?_; intro w3 HW3)
              | (go_at_call 18; refine CS.out.mono ?_; rintro e w2 ⟨zg, rfl, hzd, N2, n2, ⟨sv2, g1⟩, g2, g3⟩; have HON := hd (zcells_one g3); have HG := hd (And.intro hzd (And.intro g1 (And.intro g2 g3))); clear g1 g2 g3 n2 hzd))
            simp only [Act.put]
            have HF2 : Hid (Fr (fun i => i < D) W w2) := HS.out.fr.trans (HG.out.2.2.1.less (fun i hi => .inl hi))
            have HB3 : Hid (Below w2.heap.size w2 w3 ∧ w3.heap.size = w2.heap.size + 1) := by
              rw [HW3.out]
              exact ⟨(Below.refl _ _).alloc (Nat.le_refl _) _, by simp⟩
            have HDl : Hid (D < w2.heap.size) := HG.out.2.1.lt
            have HWw : Hid (w.heap.size ≤ w2.heap.size) := Nat.le_of_lt (Nat.lt_of_le_of_lt HDW.out HDl.out)
            have HUP : Hid (∀ w', Below w3.heap.size w3 w' → Below w2.heap.size w2 w') := fun w' hb => HB3.out.1.trans (hb.mono HB3.out.1.size)
            have HEC : Hid (∀ w', Below w3.heap.size w3 w' → w'.rangeAt w2.heap.size 0 zg.cells) := fun w' hb => range_below hb (by rw [HB3.out.2]; exact Nat.lt_succ_self _) (by rw [HW3.out]; exact range_new w2 _ 50)
            have HOKC : Hid (∀ w', Below w3.heap.size w3 w' → w'.cell? ⟨D, 3, none⟩ = some (.bool true)) := fun w' hb => ((HUP.out w' hb).cell (p := ⟨D, 3, none⟩) HDl.out).trans HG.out.2.1.cells.2.2.2.1
            have HWAY : Hid (∀ w', Below w2.heap.size w2 w' → Below w.heap.size w w') := fun w' hb => (HBR.out w2 HF2.out).trans (hb.mono HWw.out)
            have HZC : Hid (∀ w', Below w3.heap.size w3 w' → w'.rangeAt b (off + k * 24) z.cells) := fun w' hb => range_below (HWAY.out w' (HUP.out w' hb)) HRG.out.1 HRG.out.2
            have HS0 : Hid (Below w3.heap.size w3 w3.drew) := (Below.refl _ _).drew
            have HNl : Hid (∀ i, (N i ∨ N2 i) → i < w2.heap.size) := fun i hi => HG.out.2.1.base i (by rcases hi with hi | hi; exact .inl (.inr hi); exact .inr hi)
            have HZG : Hid (∀ w', Below w2.heap.size w2 w' → ZAt w' (fun i => N i ∨ N2 i) zg) := fun w' hb => HG.out.2.2.2.kept (Below.sameOf hb HNl.out)
            have HSS := hd (sameState zg z (fun i => N i ∨ N2 i) (In w) w3.drew (fun i hi => Nat.lt_of_lt_of_le (HNl.out i hi) HB3.out.1.size) (fun i hi => Nat.lt_of_lt_of_le hi (Nat.le_trans HWw.out HB3.out.1.size)) HG.out.1 (HZG.out _ (HUP.out _ HS0.out)) (HZE.out.kept (Below.sameOf (HWAY.out _ (HUP.out _ HS0.out)) (fun _ h => h))) HSK.out)
            have HNEXT : Hid (∀ w', Below w3.heap.size w3 w' → ∃ N' sv', DIn W w' D l6 (l5.length + (statesTo (zs.map fun z : ZIn => z.d) (k + 1)).1.length) (statesTo (zs.map fun z : ZIn => z.d) (k + 1)).2 (.slice a6 l6.length c6) sv' zg.vS (lastTo (zs.map fun z : ZIn => z.d) (k + 1)) N') := fun w' hb => by
              refine ⟨fun i => N i ∨ N2 i, sv2, ?_, HF2.out.belowAll (fun i hi => Nat.lt_trans hi HDl.out) (HUP.out w' hb), ?_⟩
              · rw [HST.out]
                have q := (HG.out.2.1.same (R' := fun i => i < D ∨ (N i ∨ N2 i)) (fun i => ⟨fun h => by rcases h with (h | h) | h; exact .inl h; exact .inr (.inl h); exact .inr (.inr h), fun h => by rcases h with h | h | h; exact .inl (.inl h); exact .inl (.inr h); exact .inr h⟩)).below (HUP.out w' hb)
                rw [List.length_append, ← Nat.add_assoc]
                exact q
              · rw [HLT.out, ← HG.out.1]
                exact (HZG.out w' (HUP.out w' hb)).seats.before
            obtain ⟨sa, sn, sc, hsv⟩ := seats_form HG.out.2.2.2.seats
            have HVS : Hid (∀ w', Below w3.heap.size w3 w' → w'.cell? ⟨w2.heap.size, 22, none⟩ = some (.slice sa sn sc)) := fun w' hb => by
              have := HEC.out w' hb 22 _ rfl
              rwa [Nat.zero_add, hsv] at this
            rw [hsv] at HNEXT
            have HL1 : Hid ((Try.prog.info? 50).map (·.size) = some zg.cells.length) := Try.siz50
            have HL2 : Hid ((Try.prog.info? 50).map (·.size) = some z.cells.length) := Try.siz50
            generalize hcg : zg.cells = cg at HEC HSS HL1
            generalize hcz : z.cells = cz at HZC HSS HL2
            clear hcg hcz CS HG HON HRG HZE HST HLT HSK hsv HZG HNl HWAY
            refine wp_region_Z (fun w' => Below w3.heap.size w3 w') 11 (by kernel_rfl) ?_
            show wpZ _ _ _ _ _ 12 (Array.replicate 12 false) _ _
            refine wpZ_take (i := 0) (v := .pointer (some ⟨D, 3, none⟩)) [3, 2, 1] rfl (by kernel_rfl) (by kernel_rfl) (by kernel_rfl) (by kernel_rfl) (fun _ _ _ h => h) (.inl ⟨rfl, fun w' hS => ?_⟩) HS0.out ?_
            · go_simp
            try simp only [Act.put, List.getElem_toArray, List.getElem_cons_succ, List.getElem_cons_zero, List.setIfInBounds_toArray, List.set_cons_zero, List.set_cons_succ]
            refine wpZ_take (i := 1) (v := .bool true) [3, 2] rfl (by kernel_rfl) (by kernel_rfl) (by kernel_rfl) (by kernel_rfl) (fun _ _ _ h => h) (.inl ⟨rfl, fun w' hS => ?_⟩) HS0.out ?_
            · have kk := HOKC.out _ hS
              go_simp
            try simp only [Act.put, List.getElem_toArray, List.getElem_cons_succ, List.getElem_cons_zero, List.setIfInBounds_toArray, List.set_cons_zero, List.set_cons_succ]
            refine wpZ_take (i := 2) (v := .bool false) [3] rfl (by kernel_rfl) (by kernel_rfl) (by kernel_rfl) (by kernel_rfl) (fun _ _ _ h => h) (.inl ⟨rfl, fun w' hS => ?_⟩) HS0.out ?_
            · go_simp
            try simp only [Act.put, List.getElem_toArray, List.getElem_cons_succ, List.getElem_cons_zero, List.setIfInBounds_toArray, List.set_cons_zero, List.set_cons_succ]
            refine wpZ_take (i := 3) (v := .bool false) [] rfl (by kernel_rfl) (by kernel_rfl) (by kernel_rfl) (by kernel_rfl) (fun _ _ _ h => h) (.inl ⟨rfl, fun w' hS => ?_⟩) HS0.out ?_
            · go_simp
            try simp only [Act.put, List.getElem_toArray, List.getElem_cons_succ, List.getElem_cons_zero, List.setIfInBounds_toArray, List.set_cons_zero, List.set_cons_succ]
            refine wpZ_take (i := 5) (v := .slice (some ⟨b, off, none⟩) zs.length cap) [10, 9, 8, 7] rfl (by kernel_rfl) (by kernel_rfl) (by kernel_rfl) (by kernel_rfl) (fun _ _ _ h => h) (.inl ⟨rfl, fun w' hS => ?_⟩) HS0.out ?_
            · go_simp
            try simp only [Act.put, List.getElem_toArray, List.getElem_cons_succ, List.getElem_cons_zero, List.setIfInBounds_toArray, List.set_cons_zero, List.set_cons_succ]
            refine wpZ_take (i := 6) (v := .int .i64 k) [10, 9, 8, 7] rfl (by kernel_rfl) (by kernel_rfl) (by kernel_rfl) (by kernel_rfl) (fun _ _ _ h => h) (.inl ⟨rfl, fun w' hS => ?_⟩) HS0.out ?_
            · go_simp
            try simp only [Act.put, List.getElem_toArray, List.getElem_cons_succ, List.getElem_cons_zero, List.setIfInBounds_toArray, List.set_cons_zero, List.set_cons_succ]
            refine wpZ_take (i := 7) (v := .pointer (some ⟨b, off + k * 24, none⟩)) [10, 9, 8] rfl (by kernel_rfl) (by kernel_rfl) (by kernel_rfl) (by kernel_rfl) (fun _ _ _ h => h) (.inl ⟨rfl, fun w' hS => ?_⟩) HS0.out ?_
            · go_simp
            try simp only [Act.put, List.getElem_toArray, List.getElem_cons_succ, List.getElem_cons_zero, List.setIfInBounds_toArray, List.set_cons_zero, List.set_cons_succ]
            refine wpZ_take (i := 4) (v := .agg cg.toArray) [10, 9] rfl (by kernel_rfl) (by kernel_rfl) (by kernel_rfl) (by kernel_rfl) (fun _ _ _ h => h) (yieldsIf_load_mid rfl 50 _ rfl w2.heap.size 0 rfl cg _ (fun w' hS => HEC.out w' hS) Try.underlying50 rfl HL1.out) HS0.out ?_
            try simp only [Act.put, List.getElem_toArray, List.getElem_cons_succ, List.getElem_cons_zero, List.setIfInBounds_toArray, List.set_cons_zero, List.set_cons_succ]
            refine wpZ_take (i := 8) (v := .agg cz.toArray) [10, 9] rfl (by kernel_rfl) (by kernel_rfl) (by kernel_rfl) (by kernel_rfl) (fun _ _ _ h => h) (yieldsIf_load_mid rfl 50 _ rfl b (off + k * 24) rfl cz _ (fun w' hS => HZC.out w' hS) Try.underlying50 rfl HL2.out) HS0.out ?_
            try simp only [Act.put, List.getElem_toArray, List.getElem_cons_succ, List.getElem_cons_zero, List.setIfInBounds_toArray, List.set_cons_zero, List.set_cons_succ]
            refine wpZ_one (i := 9) (by kernel_rfl) (wpOp_want rfl rfl ?_)
            go_simp
            go_at_call 19
            refine HSS.out.mono ?_
            rintro e' Wf ⟨rfl, hb5⟩
            have HBf : Hid (Below w3.heap.size w3 Wf) := HS0.out.trans (hb5.mono HS0.out.size)
            clear hb5
            refine ⟨HBf.out, ?_⟩
            try simp only [Act.put, List.getElem_toArray, List.getElem_cons_succ, List.getElem_cons_zero, List.setIfInBounds_toArray, List.set_cons_zero, List.set_cons_succ]
            refine wpZ_one (i := 10) (by kernel_rfl) (wpOp_want rfl rfl ?_)
            go_simp
            refine ⟨HBf.out, ?_⟩
            try simp only [Act.put, List.getElem_toArray, List.getElem_cons_succ, List.getElem_cons_zero, List.setIfInBounds_toArray, List.set_cons_zero, List.set_cons_succ]
            refine wpZ_one (i := 11) (by kernel_rfl) (wpOp_want rfl rfl ?_)
            go_simp
            refine wpZ_done (by kernel_rfl) ?_
            try simp only [Act.put, List.getElem_toArray, List.getElem_cons_succ, List.getElem_cons_zero, List.setIfInBounds_toArray, List.set_cons_zero, List.set_cons_succ]
            have hvs := HVS.out Wf HBf.out
            have HNX := hd (HNEXT.out Wf HBf.out)
            clear HSS HEC HZC HOKC HNEXT HVS HL1 HL2
            go_wp2
            go_roundw
            case rel => exact ⟨k + 1, by omega, by go_num, HNX⟩
            case measure => simp [intOf]; omega
          · obtain rfl : k = zs.length := by omega
            have b1 := HS.out.dec.cells.2.1
            rw [HEND.out] at b1
            have HEB := hd (HBR.out wr HS.out.fr)
            clear HS
            go_wp2
            go_ret
            exact ⟨by simp, HEB.out⟩
end Go.Proofs.Qxb6618929a
