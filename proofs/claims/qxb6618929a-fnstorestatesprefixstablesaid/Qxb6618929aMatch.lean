/-
  zzStateMatches of a state that was built.
-/
import Derived.Test.Qxb6618929aSmall
import Derived.Test.Qxb6618929aBuild4
import Derived.Deep.CutBlock
import Derived.Deep.WholeRow
import Derived.Deep.DeepCutAuto
namespace Go.Proofs.Qxb6618929a
open Go Go.RowKit

theorem qz97 (W : World) (n c n' c' : Nat) : (binOp .eql 97 (.slice none n c) (.slice none n' c')).run Try.prog W = .ok (.bool true) W := Lib.run_eql_slice_nil W _ _ none n c n' c' Try.underlying97
theorem qs97 (W : World) (a : Addr) (n c n' c' : Nat) : (binOp .eql 97 (.slice (some a) n c) (.slice none n' c')).run Try.prog W = .ok (.bool false) W := Lib.run_eql_slice_nil W _ _ (some a) n c n' c' Try.underlying97
attribute [local go_sem] qz73 qs73 qz46 qs46 qz48 qs48 qz97 qs97

theorem Try.size81 : (Try.prog.info? 81).map (·.size) = some 7 := by kernel_rfl
theorem Try.size67 : (Try.prog.info? 67).map (·.size) = some 4 := by kernel_rfl
theorem Try.size69 : (Try.prog.info? 69).map (·.size) = some 8 := by kernel_rfl
theorem Try.size79 : (Try.prog.info? 79).map (·.size) = some 10 := by kernel_rfl

def evCells (d : StateD) (vES vEB : Value) : List Value := [encS d.kind, vES, encS d.action, .int .i64 d.amount, encS d.street, vEB, .int .i64 d.place]
def tbCells (d : StateD) (vB vTA vS : Value) : List Value := [.int .i64 d.hand, .int .i64 d.sb, .int .i64 d.bb, .int .i64 d.ante, encS d.tstreet, .int .i64 d.button, vB, .int .i64 d.pot, vTA, vS]
theorem StateAt.ev {w : World} {R : Nat → Prop} {g : Nat} {d : StateD} {vES vEB vT vB vTA vS : Value} (h : StateAt w R g d vES vEB vT vB vTA vS) : w.rangeAt g 2 (evCells d vES vEB) := fun j v hv => by
  have hj : j < 7 := (List.getElem?_eq_some_iff.1 hv).1
  match j, hj, hv with
  | 0, _, hv => rw [← Option.some.inj hv]; exact h.c2
  | 1, _, hv => rw [← Option.some.inj hv]; exact h.c3
  | 2, _, hv => rw [← Option.some.inj hv]; exact h.c4
  | 3, _, hv => rw [← Option.some.inj hv]; exact h.c5
  | 4, _, hv => rw [← Option.some.inj hv]; exact h.c6
  | 5, _, hv => rw [← Option.some.inj hv]; exact h.c7
  | 6, _, hv => rw [← Option.some.inj hv]; exact h.c8
theorem StateAt.tb {w : World} {R : Nat → Prop} {g : Nat} {d : StateD} {vES vEB vT vB vTA vS : Value} (h : StateAt w R g d vES vEB vT vB vTA vS) : w.rangeAt g 10 (tbCells d vB vTA vS) := fun j v hv => by
  have hj : j < 10 := (List.getElem?_eq_some_iff.1 hv).1
  match j, hj, hv with
  | 0, _, hv => rw [← Option.some.inj hv]; exact h.c10
  | 1, _, hv => rw [← Option.some.inj hv]; exact h.c11
  | 2, _, hv => rw [← Option.some.inj hv]; exact h.c12
  | 3, _, hv => rw [← Option.some.inj hv]; exact h.c13
  | 4, _, hv => rw [← Option.some.inj hv]; exact h.c14
  | 5, _, hv => rw [← Option.some.inj hv]; exact h.c15
  | 6, _, hv => rw [← Option.some.inj hv]; exact h.c16
  | 7, _, hv => rw [← Option.some.inj hv]; exact h.c17
  | 8, _, hv => rw [← Option.some.inj hv]; exact h.c18
  | 9, _, hv => rw [← Option.some.inj hv]; exact h.c19

/-- A store of a whole value into a block that was made last, the world behind it under a name. -/
theorem wpList_store_new {P : Program} {ops : Array Oper} {rest : List Oper} {op : Oper} {a : Act} {w : World} {Q : Exit → Act → World → Prop} (hgd : op.guard = none) (ty : TypeId) (x y : Operand) (ho : op.op = .store ty x y)
    (c c' : Array Value) (hx : a.eval x = .pointer (some ⟨w.heap.size, 0, none⟩)) (hy : a.eval y = .agg c') (hi : (P.info? ty).map (·.size) = some c'.size) (hc : c.size = c'.size) (h1 : c'.all (·.oneCell') = true)
    (h : ∀ w', Hid (w' = w.alloc (.cells c' ty)) → wpList P ops Q rest (a.put op.dst undef) w') : wpList P ops Q (op :: rest) a (w.alloc (.cells c ty)) :=
  wpList_plain hgd fun K hK => by
    unfold Oper.wp execOp
    simp only [ho, hx, hy, Instr.storeAt, Instr.sureAddr, Sem.run_bind, Sem.run_pure, Result.andThen_ok, run_storeVar_new w ty c c' hi hc h1]
    exact hK _ _ (h _ rfl)

theorem range_new (w : World) (cs : List Value) (t : TypeId) : (w.alloc (.cells cs.toArray t)).rangeAt w.heap.size 0 cs := fun j v hv => by
  rw [Nat.zero_add, cell_of_row _ w.heap.size j _ t (0, 0) (heap_alloc_new w _)]
  simpa using hv

theorem range_old {w w' : World} {x : Obj} {b o : Nat} {cs : List Value} (e : w' = w.alloc x) (hb : b < w.heap.size) (hr : w.rangeAt b o cs) : w'.rangeAt b o cs := by
  subst e
  exact range_below ((Below.refl w.heap.size w).alloc (Nat.le_refl _) x) hb hr
theorem cell_old {w w' : World} {x : Obj} {p : Addr} {v : Value} (e : w' = w.alloc x) (hb : p.block < w.heap.size) (hr : w.cell? p = some v) : w'.cell? p = some v := by
  subst e
  exact (((Below.refl w.heap.size w).alloc (Nat.le_refl _) x).cell hb).trans hr
theorem legal_one (l : LegalD) : l.cells.toArray.all (·.oneCell') = true := by simp [LegalD.cells, encS, Value.oneCell']
theorem legal_two {w : World} {R R' : Nat → Prop} {v v' : Value} {ls : List LegalD} {k : Nat} (h : LegalAt w R v (some ls)) (h' : LegalAt w R' v' (some ls)) (hk : k < ls.length) (hR : ∀ k, R k → k < w.heap.size) (hR' : ∀ k, R' k → k < w.heap.size) :
    ∃ (b o c b' o' c' : Nat) (l : LegalD), v = .slice (some ⟨b, o, none⟩) ls.length c ∧ v' = .slice (some ⟨b', o', none⟩) ls.length c' ∧ Hid (w.rangeAt b (o + k * 4) l.cells ∧ w.rangeAt b' (o' + k * 4) l.cells ∧ b < w.heap.size ∧ b' < w.heap.size) := by
  obtain ⟨a, c, rfl, h2⟩ := h
  obtain ⟨a', c', rfl, h2'⟩ := h'
  rcases h2 with h2 | ⟨_, b, o, rfl, hb, HC⟩
  · omega
  rcases h2' with h2' | ⟨_, b', o', rfl, hb', HC'⟩
  · omega
  obtain ⟨l, p1, p2⟩ := HC.out k hk
  obtain ⟨l', p1', p2'⟩ := HC'.out k hk
  obtain rfl := Option.some.inj (p1.symm.trans p1')
  exact ⟨b, o, c, b', o', c', l, rfl, rfl, p2, p2', hR _ hb, hR' _ hb'⟩
theorem seats_two {w : World} {R R' : Nat → Prop} {v v' : Value} {ds : List SeatD} {k : Nat} (h : SeatsAt w R v (some ds)) (h' : SeatsAt w R' v' (some ds)) (hk : k < ds.length) (hR : ∀ k, R k → k < w.heap.size) (hR' : ∀ k, R' k → k < w.heap.size) :
    ∃ (b o c b' o' c' : Nat) (d : SeatD) (a1 : Option Addr) (n1 c1 : Nat) (a2 : Option Addr) (n2 c2 : Nat), v = .slice (some ⟨b, o, none⟩) ds.length c ∧ v' = .slice (some ⟨b', o', none⟩) ds.length c' ∧ Hid (w.rangeAt b (o + k * 8) (seatCells d (.slice a1 n1 c1)) ∧ w.rangeAt b' (o' + k * 8) (seatCells d (.slice a2 n2 c2)) ∧ b < w.heap.size ∧ b' < w.heap.size ∧ d ∈ ds ∧
      CardsAt w R (.slice a1 n1 c1) d.cards ∧ CardsAt w R' (.slice a2 n2 c2) d.cards) := by
  obtain ⟨a, c, rfl, h2⟩ := h
  obtain ⟨a', c', rfl, h2'⟩ := h'
  rcases h2 with h2 | ⟨_, b, o, rfl, HC⟩
  · omega
  rcases h2' with h2' | ⟨_, b', o', rfl, HC'⟩
  · omega
  obtain ⟨d, cv, p1, p2⟩ := HC.out k hk
  obtain ⟨d', cv', p1', p2'⟩ := HC'.out k hk
  obtain rfl := Option.some.inj (p1.symm.trans p1')
  obtain ⟨a1, n1, c1, rfl⟩ := cards_form p2.cards
  obtain ⟨a2, n2, c2, rfl⟩ := cards_form p2'.cards
  exact ⟨b, o, c, b', o', c', d, a1, n1, c1, a2, n2, c2, rfl, rfl, seat_range p2, seat_range p2', hR _ p2.inR, hR' _ p2'.inR, List.mem_of_getElem? p1, p2.cards, p2'.cards⟩

set_option maxHeartbeats 20000000 in
set_option maxRecDepth 100000 in
theorem stateMatches (g : Nat) (z : ZIn) (R R' : Nat → Prop) (w : World) (hR : ∀ k, R k → k < w.heap.size) (hR' : ∀ k, R' k → k < w.heap.size) (h : BuiltZ w R g z) (hz : ZAt w R' z) (ok : ZOk z) :
    Calls Try.prog 21 #[.pointer (some ⟨g, 0, none⟩), .agg z.cells.toArray] w fun e w' => e = .returned (.bool true) ∧ Below w.heap.size w w' := by
  obtain ⟨vES, vEB, vT, vB, vTA, vS, hst, htu⟩ := h
  obtain ⟨pE, hpE⟩ := opt_form hst.eseat
  subst hpE
  obtain ⟨pA, hpA⟩ := opt_form hst.toAct
  subst hpA
  obtain ⟨pT, hpT⟩ := turn_form htu
  subst hpT
  obtain ⟨ea, en, ec, hve⟩ := cards_form hst.eboard
  subst hve
  obtain ⟨ba, bn, bc, hvb⟩ := cards_form hst.board
  subst hvb
  obtain ⟨sa, sn, sc, hvs⟩ := seats_form hst.seats
  subst hvs
  have HKS : Hid (∀ w', Below w.heap.size w w' → StateAt w' R g z.d (.pointer pE) (.slice ea en ec) (.pointer pT) (.slice ba bn bc) (.pointer pA) (.slice sa sn sc) ∧ TurnAt w' R (.pointer pT) z.turn ∧ ZAt w' R' z) := fun w' hb =>
    ⟨hst.kept (Below.sameOf hb hR), htu.kept (Below.sameOf hb hR), hz.kept (Below.sameOf hb hR')⟩
  have HZ0 : Hid (∀ w', Below (w.heap.size + 1) (w.alloc (.cells z.cells.toArray 50)) w' → ∀ j v, z.cells[j]? = some v → w'.cell? ⟨w.heap.size, j, none⟩ = some v) := fun w' hb j v hv => by
    have := range_below hb (Nat.lt_succ_self _) (range_new w z.cells 50) j v hv
    rwa [Nat.zero_add] at this
  have HB0 : Hid (Below w.heap.size w (w.alloc (.cells z.cells.toArray 50)) ∧ (w.alloc (.cells z.cells.toArray 50)).heap.size = w.heap.size + 1) := ⟨(Below.refl _ _).alloc (Nat.le_refl _) _, by simp⟩
  have HOK := hd ok
  have HRR : Hid (∀ w', Below w.heap.size w w' → (∀ k, R k → k < w'.heap.size) ∧ (∀ k, R' k → k < w'.heap.size)) := fun w' hb => ⟨fun k hk => Nat.lt_of_lt_of_le (hR k hk) hb.size, fun k hk => Nat.lt_of_lt_of_le (hR' k hk) hb.size⟩
  clear hst htu hz ok hR hR'
  generalize z.cells.toArray = cla at HZ0 HB0 ⊢
  go_enter Try.func21, Try.ntmps21
  go_wp2_with fail
  generalize w.alloc (.cells cla 50) = W0 at HZ0 HB0 ⊢
  have HBW : Hid (∀ w', Below (w.heap.size + 1) W0 w' → Below w.heap.size w w') := fun w' hb => HB0.out.1.trans (hb.mono (Nat.le_succ _))
  have q0 := HZ0.out W0 (Below.refl _ _) 0 _ rfl
  have q1 := HZ0.out W0 (Below.refl _ _) 1 _ rfl
  have q23 := HZ0.out W0 (Below.refl _ _) 23 _ rfl
  obtain ⟨s0, s1, s20⟩ : _ ∧ _ ∧ _ := ⟨(HKS.out W0 HB0.out.1).1.c0, (HKS.out W0 HB0.out.1).1.c1, (HKS.out W0 HB0.out.1).1.c20⟩
  simp only [encS] at q0 s0
  go_quiet (fail)
  clear q0 q1 q23 s0 s1 s20
  generalize hW : W0.drewN nq = Wa
  have HBa : Hid (Below (w.heap.size + 1) W0 Wa) := by rw [← hW]; exact ⟨rfl, rfl, rfl, Nat.le_refl _, fun _ _ => rfl⟩
  have HSa : Hid (Wa.heap.size = w.heap.size + 1) := by rw [← hW]; exact HB0.out.2
  clear hW
  go_upto_region 3 with fail
  have HEV := hd (HKS.out Wa (HBW.out Wa HBa.out)).1.ev
  go_cut [5] (fun p wc => p = .pointer (some ⟨w.heap.size + 1, 0, none⟩) ∧ Hid (wc.rangeAt (w.heap.size + 1) 0 (evCells z.d (.pointer pE) (.slice ea en ec)) ∧ Below (w.heap.size + 1) W0 wc))
  case first => as_aux_lemma =>
    have HON : Hid ((evCells z.d (.pointer pE) (.slice ea en ec)).toArray.all (·.oneCell') = true) := by show _ = _; simp [evCells, encS, Value.oneCell']
    go_wp2_with (first
      | (refine wpList_store_new rfl 81 _ _ rfl #[.string ⟨#[]⟩, .pointer none, .string ⟨#[]⟩, .int .i64 0, .string ⟨#[]⟩, .slice none 0 0, .int .i64 0] (evCells z.d (.pointer pE) (.slice ea en ec)).toArray rfl rfl Try.size81 rfl HON.out ?_; intro wz HWZ)
      | (refine wpList_load_mid rfl 81 _ rfl g 2 rfl (evCells z.d (.pointer pE) (.slice ea en ec)) _ HEV.out Try.underlying81 rfl Try.size81 ?_))
    go_meet
    case rel => exact ⟨by rw [HSa.out], by rw [HWZ.out, ← HSa.out]; exact range_new Wa _ 81, by rw [HWZ.out]; exact HBa.out.alloc (Nat.le_of_eq HSa.out.symm) _⟩
  case rest => as_aux_lemma =>
    obtain ⟨rfl, hcut⟩ := hcut
    have HE := hd hcut.out.1
    have HBb := hd hcut.out.2
    clear hcut HEV HSa HBa
    generalize wc = Wb at HE HBb ⊢
    have e0 := HE.out 0 _ rfl
    have e1 := HE.out 1 _ rfl
    have e2 := HE.out 2 _ rfl
    have e3 := HE.out 3 _ rfl
    have e4 := HE.out 4 _ rfl
    have e5 := HE.out 5 _ rfl
    have e6 := HE.out 6 _ rfl
    have q2 := HZ0.out Wb HBb.out 2 _ rfl
    have q3 := HZ0.out Wb HBb.out 3 _ rfl
    have q4 := HZ0.out Wb HBb.out 4 _ rfl
    have q5 := HZ0.out Wb HBb.out 5 _ rfl
    have q6 := HZ0.out Wb HBb.out 6 _ rfl
    have q7 := HZ0.out Wb HBb.out 7 _ rfl
    have q8 := HZ0.out Wb HBb.out 8 _ rfl
    simp only [encS, Nat.zero_add] at e0 e1 e2 e3 e4 e5 e6 q2 q4 q6
    have HC1 : Hid (∀ m, Calls Try.prog 35 #[.pointer pE, z.vES] (Wb.drewN m) fun e w' => e = .returned (.bool true) ∧ ∃ n, w' = (Wb.drewN m).drewN n) := fun m =>
      sameOpt _ _ z.d.eseat R R' (Wb.drewN m) ((HKS.out Wb (HBW.out Wb HBb.out)).1.eseat.kept (fun _ _ => rfl)) ((HKS.out Wb (HBW.out Wb HBb.out)).2.2.eseat.kept (fun _ _ => rfl))
    have HC2 : Hid (∀ m, Calls Try.prog 38 #[.slice ea en ec, z.vEB] (Wb.drewN m) fun e w' => e = .returned (.bool true) ∧ ∃ n, w' = (Wb.drewN m).drewN n) := fun m =>
      cardsMatch _ _ z.d.eboard R R' (Wb.drewN m) ((HKS.out Wb (HBW.out Wb HBb.out)).1.eboard.kept (fun _ _ => rfl)) ((HKS.out Wb (HBW.out Wb HBb.out)).2.2.eboard.kept (fun _ _ => rfl)) HOK.out.state.eboard
    go_upto_if 91 with (first
      | (go_at_call 38; refine (HC2.out _).mono ?_; rintro e w' ⟨rfl, m2, rfl⟩)
      | (go_at_call 35; refine (HC1.out 0).mono ?_; rintro e w' ⟨rfl, m1, rfl⟩))
    have HBc : Hid (∀ m n, Below (w.heap.size + 1) W0 ((Wb.drewN m).drewN n)) := fun m n => HBb.out.trans ⟨rfl, rfl, rfl, Nat.le_refl _, fun _ _ => rfl⟩
    have HBd : Hid (∀ m, Below (w.heap.size + 1) W0 (Wb.drewN m)) := fun m => HBb.out.trans ⟨rfl, rfl, rfl, Nat.le_refl _, fun _ _ => rfl⟩
    clear e0 e1 e2 e3 e4 e5 e6 q2 q3 q4 q5 q6 q7 q8 HC1 HC2 HE
    go_upto_region 6 with fail
    have s9 := (HKS.out Wb (HBW.out Wb HBb.out)).1.c9
    have q9 := HZ0.out Wb HBb.out 9 _ rfl
    have HTT := hd ((HKS.out Wb (HBW.out Wb HBb.out)).2.1)
    go_cut [99] (fun t wc => t = .bool false ∧ Hid (Below (w.heap.size + 1) W0 wc))
    case first => as_aux_lemma =>
      cases hht : z.hasTurn with
      | false =>
        have hT : Value.pointer pT = .pointer none := by
          have := HTT.out
          rwa [show z.turn = none by unfold ZIn.turn; rw [hht]; rfl] at this
        obtain rfl : pT = none := by injection hT
        rw [hht] at q9
        go_quiet (fail)
        go_wp2
        go_meet
        case rel => exact ⟨rfl, HBb.out.trans ⟨rfl, rfl, rfl, Nat.le_refl _, fun _ _ => rfl⟩⟩
      | true =>
        obtain ⟨gT, vL, hT, hTR, hTr, hTL⟩ : TurnAt Wb R (.pointer pT) (some ⟨z.token, z.left, z.legal⟩) := by
          have := HTT.out
          rwa [show z.turn = some ⟨z.token, z.left, z.legal⟩ by unfold ZIn.turn; rw [hht]; rfl] at this
        obtain rfl : pT = some ⟨gT, 0, none⟩ := by injection hT
        rw [hht] at q9
        clear hTR hTr hTL
        go_quiet (fail)
        go_wp2
        go_meet
        case rel => exact ⟨rfl, HBb.out.trans ⟨rfl, rfl, rfl, Nat.le_refl _, fun _ _ => rfl⟩⟩
    case rest => as_aux_lemma =>
      obtain ⟨rfl, HBe⟩ := hcut
      clear s9 q9 HTT HBc HBd HBb
      generalize wc = Wc at HBe ⊢
      go_upto_region 8 with fail
      have s9 := (HKS.out Wc (HBW.out Wc HBe.out)).1.c9
      have HTT := hd ((HKS.out Wc (HBW.out Wc HBe.out)).2.1)
      go_cut [104] (fun t wc => t = .bool z.hasTurn ∧ Hid (Below (w.heap.size + 1) W0 wc))
      case first => as_aux_lemma =>
        cases hht : z.hasTurn with
        | false =>
          have hT : Value.pointer pT = .pointer none := by
            have := HTT.out
            rwa [show z.turn = none by unfold ZIn.turn; rw [hht]; rfl] at this
          obtain rfl : pT = none := by injection hT
          go_wp2
          go_meet
          case rel => exact ⟨by rw [hht], HBe.out⟩
        | true =>
          obtain ⟨gT, vL, hT, hTR, hTr, hTL⟩ : TurnAt Wc R (.pointer pT) (some ⟨z.token, z.left, z.legal⟩) := by
            have := HTT.out
            rwa [show z.turn = some ⟨z.token, z.left, z.legal⟩ by unfold ZIn.turn; rw [hht]; rfl] at this
          obtain rfl : pT = some ⟨gT, 0, none⟩ := by injection hT
          clear hTR hTr hTL
          go_wp2
          go_meet
          case rel => exact ⟨by rw [hht], HBe.out⟩
      case rest => as_aux_lemma =>
        obtain ⟨rfl, HBf⟩ := hcut
        clear s9 HTT HBe
        generalize wc = Wd at HBf ⊢
        go_upto_if 104 with fail
        go_cut [6, 7, 8, 9] (fun _ _ _ _ wc => Hid (Below (w.heap.size + 1) W0 wc))
        case first => as_aux_lemma =>
          cases hht : z.hasTurn with
          | false =>
            go_wp2
            go_meet
            case rel => exact HBf
          | true =>
            have HTT := hd ((HKS.out Wd (HBW.out Wd HBf.out)).2.1)
            obtain ⟨gT, vL, hT, hTR, hTr, hTL⟩ : TurnAt Wd R (.pointer pT) (some ⟨z.token, z.left, z.legal⟩) := by
              have := HTT.out
              rwa [show z.turn = some ⟨z.token, z.left, z.legal⟩ by unfold ZIn.turn; rw [hht]; rfl] at this
            obtain rfl : pT = some ⟨gT, 0, none⟩ := by injection hT
            have s9 := (HKS.out Wd (HBW.out Wd HBf.out)).1.c9
            have t0 := hTr 0 _ rfl
            have t1 := hTr 1 _ rfl
            have t2 := hTr 2 _ rfl
            have q10 := HZ0.out Wd HBf.out 10 _ rfl
            have q11 := HZ0.out Wd HBf.out 11 _ rfl
            have q12 := HZ0.out Wd HBf.out 12 _ rfl
            simp only [encS, Nat.zero_add] at t0 t1 t2 q10
            have hZL := (HKS.out Wd (HBW.out Wd HBf.out)).2.2.legal
            cases hlg : z.legal with
            | none =>
              rw [hlg] at hTL hZL
              have hv1 : vL = .slice none 0 0 := hTL
              have hv2 : z.vL = .slice none 0 0 := hZL
              subst hv1
              rw [hv2] at q12
              clear hTR hTr hTL hZL HTT hT
              go_wp2_with fail
              go_quiet (fail)
              go_wp2
              go_loopw [7, 8, 9, 150] (fun _ _ _ i wr => i = .int .i64 0 ∧ Hid (Below (w.heap.size + 1) W0 wr)) (fun _ _ _ _ _ => 0)
              case atStart => exact ⟨rfl, HBf.out.trans ⟨rfl, rfl, rfl, Nat.le_refl _, fun _ _ => rfl⟩⟩
              case round =>
                obtain ⟨rfl, HBg⟩ := hrel
                go_wp2
                go_meet
                case rel => exact HBg
            | some ls =>
              rw [hlg] at hTL hZL
              obtain ⟨aT, cT, hv1, _⟩ := hTL
              obtain ⟨aZ, cZ, hv2, _⟩ := hZL
              subst hv1
              rw [hv2] at q12
              have HLL := hd (And.intro hlg hht)
              have hll : ls.length ≤ 1048577 := by have := HOK.out.legal; rw [hlg] at this; exact this
              clear hTR hTr HTT hT hlg hht hv2
              go_wp2_with fail
              go_quiet (fail)
              go_wp2
              clear s9 t0 t1 t2 q10 q11 q12
              go_loopw [7, 8, 9, 150] (fun _ _ _ i wr => ∃ k : Nat, k ≤ ls.length ∧ i = .int .i64 k ∧ Hid (Below (w.heap.size + 1) W0 wr)) (fun _ _ _ i _ => ls.length - (intOf i).toNat)
              case atStart => exact ⟨0, Nat.zero_le _, rfl, HBf.out.trans ⟨rfl, rfl, rfl, Nat.le_refl _, fun _ _ => rfl⟩⟩
              case round => as_aux_lemma =>
                obtain ⟨k, hk, rfl, HBg⟩ := hrel
                by_cases hlt : k < ls.length
                · obtain ⟨gT', vL', hT', hTR', hTr', hTL'⟩ : TurnAt wr R (.pointer (some ⟨gT, 0, none⟩)) (some ⟨z.token, z.left, some ls⟩) := by
                    have := (HKS.out wr (HBW.out wr HBg.out)).2.1
                    rwa [show z.turn = some ⟨z.token, z.left, some ls⟩ by unfold ZIn.turn; rw [HLL.out.2, HLL.out.1]; rfl] at this
                  obtain rfl : gT' = gT := by injection hT' with h; injection h with h; injection h with h; exact h.symm
                  have hZL' : LegalAt wr R' z.vL (some ls) := by rw [← HLL.out.1]; exact (HKS.out wr (HBW.out wr HBg.out)).2.2.legal
                  obtain ⟨b1, o1, c1, b2, o2, c2, l, rfl, hvz, HR2⟩ := legal_two hTL' hZL' hlt (HRR.out wr (HBW.out wr HBg.out)).1 (HRR.out wr (HBW.out wr HBg.out)).2
                  have t2 := hTr' 2 _ rfl
                  have q12 := HZ0.out wr HBg.out 12 _ rfl
                  have HSZ : Hid (w.heap.size < wr.heap.size) := Nat.lt_of_lt_of_le (by have := HB0.out.2; omega) HBg.out.size
                  rw [hvz] at q12
                  simp only [Nat.zero_add] at t2
                  clear hTR' hTr' hTL' hT' hZL' hvz
                  go_upto_region 15 with fail
                  go_upto_region 16 with (first
                    | (refine wpList_load_mid rfl 101 _ rfl b1 (o1 + k * 4) rfl l.cells _ HR2.out.1 Try.underlying101 rfl Try.size101 ?_)
                    | (refine wpList_store_new rfl 101 _ _ rfl #[.string ⟨#[]⟩, .int .i64 0, .int .i64 0, .int .i64 0] l.cells.toArray rfl rfl Try.size101 rfl (legal_one l) ?_; intro w1 HW1; have q12' := cell_old (p := ⟨w.heap.size, 12, none⟩) HW1.out HSZ.out q12; have HN1 : Hid (w1.rangeAt wr.heap.size 0 l.cells) := (by rw [HW1.out]; exact range_new wr _ 101); have HM1 := hd (range_old HW1.out HR2.out.2.2.2 HR2.out.2.1)))
                  go_upto_region 17 with (first
                    | (refine wpList_load_mid rfl 67 _ rfl b2 (o2 + k * 4) rfl l.cells _ HM1.out Try.underlying67 rfl Try.size67 ?_)
                    | (refine wpList_store_new rfl 67 _ _ rfl #[.string ⟨#[]⟩, .int .i64 0, .int .i64 0, .int .i64 0] l.cells.toArray rfl rfl Try.size67 rfl (legal_one l) ?_; intro w2 HW2; have r0 := range_old HW2.out (by rw [HW1.out]; simp) (HN1.out) 0 _ rfl; have r1 := range_old HW2.out (by rw [HW1.out]; simp) (HN1.out) 1 _ rfl; have r2 := range_old HW2.out (by rw [HW1.out]; simp) (HN1.out) 2 _ rfl; have r3 := range_old HW2.out (by rw [HW1.out]; simp) (HN1.out) 3 _ rfl; have HN2 : Hid (w2.rangeAt w1.heap.size 0 l.cells) := (by rw [HW2.out]; exact range_new w1 _ 67); have p0 := HN2.out 0 _ rfl; have p1 := HN2.out 1 _ rfl; have p2 := HN2.out 2 _ rfl; have p3 := HN2.out 3 _ rfl; simp only [encS, Nat.zero_add] at r0 r1 r2 r3 p0 p1 p2 p3))
                  go_wp2
                  go_roundw
                  case rel => exact ⟨k + 1, by omega, by go_num, by rw [HW2.out, HW1.out]; exact (HBg.out.alloc (by have := HSZ.out; omega) _).alloc (by have := HSZ.out; simp; omega) _⟩
                  case measure => simp [intOf]; omega
                · have hkn : k = ls.length := by omega
                  subst hkn
                  go_wp2
                  go_meet
                  case rel => exact HBg
        case rest => as_aux_lemma =>
          have HBe := hd hcut.out
          clear HBf hcut
          generalize wc = We at HBe ⊢
          have HTB := hd (HKS.out We (HBW.out We HBe.out)).1.tb
          have HWe : Hid (w.heap.size + 1 ≤ We.heap.size) := by have := HBe.out.size; rw [HB0.out.2] at this; exact this
          go_upto_region 20 with fail
          go_cut [10] (fun p wc => p = .pointer (some ⟨We.heap.size, 0, none⟩) ∧ Hid (wc.rangeAt We.heap.size 0 (tbCells z.d (.slice ba bn bc) (.pointer pA) (.slice sa sn sc)) ∧ Below (w.heap.size + 1) W0 wc ∧ We.heap.size < wc.heap.size))
          case first => as_aux_lemma =>
            have HON : Hid ((tbCells z.d (.slice ba bn bc) (.pointer pA) (.slice sa sn sc)).toArray.all (·.oneCell') = true) := by show _ = _; simp [tbCells, encS, Value.oneCell']
            go_wp2_with (first
              | (refine wpList_store_new rfl 79 _ _ rfl #[.int .i64 0, .int .i64 0, .int .i64 0, .int .i64 0, .string ⟨#[]⟩, .int .i64 0, .slice none 0 0, .int .i64 0, .pointer none, .slice none 0 0] (tbCells z.d (.slice ba bn bc) (.pointer pA) (.slice sa sn sc)).toArray rfl rfl Try.size79 rfl HON.out ?_; intro wz HWZ)
              | (refine wpList_load_mid rfl 79 _ rfl g 10 rfl (tbCells z.d (.slice ba bn bc) (.pointer pA) (.slice sa sn sc)) _ HTB.out Try.underlying79 rfl Try.size79 ?_))
            go_meet
            case rel => exact ⟨rfl, by rw [HWZ.out]; exact range_new We _ 79, by rw [HWZ.out]; exact HBe.out.alloc HWe.out _, by rw [HWZ.out]; simp⟩
          case rest => as_aux_lemma =>
            obtain ⟨rfl, hcut⟩ := hcut
            have HT := hd hcut.out.1
            have HBb := hd hcut.out.2.1
            have HSB := hd hcut.out.2.2
            clear hcut HTB HBe
            generalize wc = Wf at HT HBb HSB ⊢
            have e0 := HT.out 0 _ rfl
            have e1 := HT.out 1 _ rfl
            have e2 := HT.out 2 _ rfl
            have e3 := HT.out 3 _ rfl
            have e4 := HT.out 4 _ rfl
            have e5 := HT.out 5 _ rfl
            have e6 := HT.out 6 _ rfl
            have e7 := HT.out 7 _ rfl
            have e8 := HT.out 8 _ rfl
            have q13 := HZ0.out Wf HBb.out 13 _ rfl
            have q14 := HZ0.out Wf HBb.out 14 _ rfl
            have q15 := HZ0.out Wf HBb.out 15 _ rfl
            have q16 := HZ0.out Wf HBb.out 16 _ rfl
            have q17 := HZ0.out Wf HBb.out 17 _ rfl
            have q18 := HZ0.out Wf HBb.out 18 _ rfl
            have q19 := HZ0.out Wf HBb.out 19 _ rfl
            have q20 := HZ0.out Wf HBb.out 20 _ rfl
            have q21 := HZ0.out Wf HBb.out 21 _ rfl
            simp only [encS, Nat.zero_add] at e0 e1 e2 e3 e4 e5 e6 e7 e8 q17
            have HC1 : Hid (∀ m, Calls Try.prog 35 #[.pointer pA, z.vTA] (Wf.drewN m) fun e w' => e = .returned (.bool true) ∧ ∃ n, w' = (Wf.drewN m).drewN n) := fun m =>
              sameOpt _ _ z.d.toAct R R' (Wf.drewN m) ((HKS.out Wf (HBW.out Wf HBb.out)).1.toAct.kept (fun _ _ => rfl)) ((HKS.out Wf (HBW.out Wf HBb.out)).2.2.toAct.kept (fun _ _ => rfl))
            have HC2 : Hid (∀ m, Calls Try.prog 38 #[.slice ba bn bc, z.vB] (Wf.drewN m) fun e w' => e = .returned (.bool true) ∧ ∃ n, w' = (Wf.drewN m).drewN n) := fun m =>
              cardsMatch _ _ z.d.board R R' (Wf.drewN m) ((HKS.out Wf (HBW.out Wf HBb.out)).1.board.kept (fun _ _ => rfl)) ((HKS.out Wf (HBW.out Wf HBb.out)).2.2.board.kept (fun _ _ => rfl)) HOK.out.state.board
            go_upto_if 260 with (first
              | (go_at_call 38; refine (HC2.out _).mono ?_; rintro e w' ⟨rfl, m2, rfl⟩)
              | (go_at_call 35; refine (HC1.out 0).mono ?_; rintro e w' ⟨rfl, m1, rfl⟩))
            clear e0 e1 e2 e3 e4 e5 e6 e7 e8 q13 q14 q15 q16 q17 q18 q19 q20 q21 HC1 HC2
            have hS1 := (HKS.out Wf (HBW.out Wf HBb.out)).1.seats
            have hS2 := (HKS.out Wf (HBW.out Wf HBb.out)).2.2.seats
            have e9 := HT.out 9 _ rfl
            have q22 := HZ0.out Wf HBb.out 22 _ rfl
            simp only [Nat.zero_add] at e9
            have HBd : Hid (∀ m, Below w.heap.size w (Wf.drewN m)) := fun m => HBW.out _ (HBb.out.trans ⟨rfl, rfl, rfl, Nat.le_refl _, fun _ _ => rfl⟩)
            cases hse : z.d.seats with
            | none =>
              rw [hse] at hS1 hS2
              have hv1 : Value.slice sa sn sc = .slice none 0 0 := hS1
              have hv2 : z.vS = .slice none 0 0 := hS2
              obtain ⟨rfl, rfl, rfl⟩ : sa = none ∧ sn = 0 ∧ sc = 0 := by injection hv1 with h1 h2 h3; exact ⟨h1, h2, h3⟩
              rw [hv2] at q22
              clear hS1 hS2 hv1
              go_wp2
              go_loop [11, 12, 13, 280] (fun _ _ _ i => i = .int .i64 0) (fun _ _ _ _ => 0)
              case atStart => rfl
              case round =>
                subst hrel
                go_wp2
                go_ret
                exact ⟨rfl, HBd.out _⟩
            | some ds =>
              rw [hse] at hS1 hS2
              obtain ⟨a1, cc1, hv1, _⟩ := hS1
              obtain ⟨a2, cc2, hv2, _⟩ := hS2
              obtain ⟨rfl, rfl, rfl⟩ : sa = some a1 ∧ sn = ds.length ∧ sc = cc1 := by injection hv1 with h1 h2 h3; exact ⟨h1, h2, h3⟩
              rw [hv2] at q22
              have HSE := hd hse
              have HV2 := hd hv2
              have hll : ds.length ≤ 10923 := by have := HOK.out.state.seats.many; rw [hse] at this; exact this
              have HEA : Hid (∀ d ∈ ds, SeatOk d) := by have := HOK.out.state.seats.each; rw [hse] at this; exact this
              clear hv1 hse hv2
              have HBW2 : Hid (∀ wr, Below (We.heap.size + 1) Wf wr → Below (w.heap.size + 1) W0 wr ∧ Below w.heap.size w wr) := fun wr hb =>
                have h1 := HBb.out.trans (hb.mono (Nat.le_succ_of_le HWe.out))
                ⟨h1, HBW.out wr h1⟩
              go_wp2
              clear e9 q22
              go_loopw [11, 12, 13, 280] (fun _ _ _ i wr => ∃ k : Nat, k ≤ ds.length ∧ i = .int .i64 k ∧ Hid (Below (We.heap.size + 1) Wf wr)) (fun _ _ _ i _ => ds.length - (intOf i).toNat)
              case atStart => exact ⟨0, Nat.zero_le _, rfl, ⟨rfl, rfl, rfl, Nat.le_refl _, fun _ _ => rfl⟩⟩
              case round => as_aux_lemma =>
                obtain ⟨k, hk, rfl, HBg⟩ := hrel
                by_cases hlt : k < ds.length
                · have hS1 : SeatsAt wr R (.slice (some a1) ds.length sc) (some ds) := by rw [← HSE.out]; exact (HKS.out wr (HBW2.out wr HBg.out).2).1.seats
                  have hS2 : SeatsAt wr R' (.slice (some a2) ds.length cc2) (some ds) := by rw [← HSE.out, ← HV2.out]; exact (HKS.out wr (HBW2.out wr HBg.out).2).2.2.seats
                  obtain ⟨b1, o1, c1, b2, o2, c2, d, x1, y1, z1, x2, y2, z2, hv1, hv2, HR2⟩ := seats_two hS1 hS2 hlt (HRR.out wr (HBW2.out wr HBg.out).2).1 (HRR.out wr (HBW2.out wr HBg.out).2).2
                  obtain ⟨rfl, rfl⟩ : a1 = ⟨b1, o1, none⟩ ∧ c1 = sc := by injection hv1 with h1 h2 h3; injection h1 with h1; exact ⟨h1, h3.symm⟩
                  obtain ⟨rfl, rfl⟩ : a2 = ⟨b2, o2, none⟩ ∧ cc2 = c2 := by injection hv2 with h1 h2 h3; injection h1 with h1; exact ⟨h1, h3⟩
                  have e9 := range_below HBg.out (Nat.lt_succ_self _) HT.out 9 _ rfl
                  have q22 := HZ0.out wr (HBW2.out wr HBg.out).1 22 _ rfl
                  rw [HV2.out] at q22
                  simp only [Nat.zero_add] at e9
                  have HSZ : Hid (We.heap.size < wr.heap.size ∧ w.heap.size < wr.heap.size) := by
                    have h1 := HSB.out
                    have h2 := HBg.out.size
                    have h3 := HWe.out
                    exact ⟨by omega, by omega⟩
                  have HCC : Hid (∀ w2, Below wr.heap.size wr w2 → Calls Try.prog 38 #[.slice x1 y1 z1, .slice x2 y2 z2] w2 fun e w' => e = .returned (.bool true) ∧ ∃ n, w' = w2.drewN n) := fun w2 hb =>
                    cardsMatch _ _ d.cards R R' w2 (HR2.out.2.2.2.2.2.1.kept (Below.sameOf hb (HRR.out wr (HBW2.out wr HBg.out).2).1)) (HR2.out.2.2.2.2.2.2.kept (Below.sameOf hb (HRR.out wr (HBW2.out wr HBg.out).2).2)) (HEA.out d HR2.out.2.2.2.2.1).cards
                  clear hS1 hS2 hv1 hv2
                  go_upto_region 28 with fail
                  go_upto_region 29 with (first
                    | (refine wpList_load_mid rfl 103 _ rfl b1 (o1 + k * 8) rfl (seatCells d (.slice x1 y1 z1)) _ HR2.out.1 Try.underlying103 rfl Try.size103 ?_)
                    | (refine wpList_store_new rfl 103 _ _ rfl #[.int .i64 0, .string ⟨#[]⟩, .int .i64 0, .int .i64 0, .bool false, .bool false, .slice none 0 0, .bool false] (seatCells d (.slice x1 y1 z1)).toArray rfl rfl Try.size103 rfl (seat_one d _ rfl) ?_; intro w1 HW1; have q22' := cell_old (p := ⟨w.heap.size, 22, none⟩) HW1.out HSZ.out.2 q22; have HN1 : Hid (w1.rangeAt wr.heap.size 0 (seatCells d (.slice x1 y1 z1))) := (by rw [HW1.out]; exact range_new wr _ 103); have HM1 := hd (range_old HW1.out HR2.out.2.2.2.1 HR2.out.2.1)))
                  go_upto_region 30 with (first
                    | (refine wpList_load_mid rfl 69 _ rfl b2 (o2 + k * 8) rfl (seatCells d (.slice x2 y2 z2)) _ HM1.out Try.underlying69 rfl Try.size69 ?_)
                    | (refine wpList_store_new rfl 69 _ _ rfl #[.int .i64 0, .string ⟨#[]⟩, .int .i64 0, .int .i64 0, .bool false, .bool false, .slice none 0 0, .bool false] (seatCells d (.slice x2 y2 z2)).toArray rfl rfl Try.size69 rfl (seat_one d _ rfl) ?_; intro w2 HW2; have HN1' := hd (range_old HW2.out (by rw [HW1.out]; simp) HN1.out); have HN2 : Hid (w2.rangeAt w1.heap.size 0 (seatCells d (.slice x2 y2 z2))) := (by rw [HW2.out]; exact range_new w1 _ 69); have HB2 : Hid (Below wr.heap.size wr w2) := (by rw [HW2.out, HW1.out]; exact ((Below.refl _ _).alloc (Nat.le_refl _) _).alloc (by simp) _);
                       have r0 := HN1'.out 0 _ rfl; have r1 := HN1'.out 1 _ rfl; have r2 := HN1'.out 2 _ rfl; have r3 := HN1'.out 3 _ rfl; have r4 := HN1'.out 4 _ rfl; have r5 := HN1'.out 5 _ rfl; have r6 := HN1'.out 6 _ rfl; have r7 := HN1'.out 7 _ rfl;
                       have p0 := HN2.out 0 _ rfl; have p1 := HN2.out 1 _ rfl; have p2 := HN2.out 2 _ rfl; have p3 := HN2.out 3 _ rfl; have p4 := HN2.out 4 _ rfl; have p5 := HN2.out 5 _ rfl; have p6 := HN2.out 6 _ rfl; have p7 := HN2.out 7 _ rfl; simp only [encS, Nat.zero_add] at r0 r1 r2 r3 r4 r5 r6 r7 p0 p1 p2 p3 p4 p5 p6 p7))
                  go_wp2_with (go_at_call 38; refine (HCC.out w2 HB2.out).mono ?_; rintro e w' ⟨rfl, m2, rfl⟩)
                  go_roundw
                  case rel => exact ⟨k + 1, by omega, by go_num, HBg.out.trans ((HB2.out.mono (by have := HSZ.out; omega)).trans ⟨rfl, rfl, rfl, Nat.le_refl _, fun _ _ => rfl⟩)⟩
                  case measure => simp [intOf]; omega
                · have hkn : k = ds.length := by omega
                  subst hkn
                  go_wp2
                  go_ret
                  exact ⟨rfl, (HBW2.out wr HBg.out).2⟩
end Go.Proofs.Qxb6618929a
