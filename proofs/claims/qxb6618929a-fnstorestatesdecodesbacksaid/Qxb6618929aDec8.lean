/-
  zzDecSeats: the walk.
-/
import Derived.Test.Qxb6618929aDec7
namespace Go.Proofs.Qxb6618929a
open Go Go.RowKit

theorem info69_parts : ∃ i, Try.prog.info? 69 = some i ∧ i.zero = some (.agg #[.int .i64 0, .string ⟨#[]⟩, .int .i64 0, .int .i64 0, .bool false, .bool false, .slice none 0 0, .bool false]) ∧ i.size = 8 ∧ i.bytes ≤ 1024 := by
  have h : (Try.prog.info? 69).map (fun i => (i.zero, i.size, decide (i.bytes ≤ 1024))) = some (some (.agg #[.int .i64 0, .string ⟨#[]⟩, .int .i64 0, .int .i64 0, .bool false, .bool false, .slice none 0 0, .bool false]), 8, true) := by kernel_rfl
  cases hq : Try.prog.info? 69 with
  | none => simp [hq] at h
  | some i =>
    simp only [hq, Option.map_some, Option.some.injEq, Prod.mk.injEq, decide_eq_true_eq] at h
    exact ⟨i, rfl, h.1, h.2.1, h.2.2⟩
theorem Try.siz69 : (Try.prog.info? 69).map (·.size) = some 8 := by kernel_rfl

/-- The byte ahead of a seat. -/
def flagOf (d : SeatD) : UInt8 := 2 ||| bitB d.folded 4 ||| bitB d.allIn 8 ||| bitB d.conn 16
theorem putCards_any (o : Option (List UInt8)) (st : St) : putCards o st = (st.1 ++ (putCards o ([], [])).1, st.2) := by
  cases o <;> simp [putCards, putLen, putB, putU]
theorem putSeat_diff {d : SeatD} {o : Option SeatD} (h : o.any (sameSeatD d) = false) (ts : List (List UInt8)) :
    putSeat d o ([], ts) = (flagOf d :: (vb d.seat ++ ((putStr d.name ([], ts)).1 ++ (vb d.stack ++ (vb d.bet ++ (putCards d.cards ([], [])).1)))), (putStr d.name ([], ts)).2) := by
  unfold putSeat
  rw [h]
  simp only [Bool.false_eq_true, if_false]
  rw [putCards_any, putV, putV, app_split (apps_Str d.name), putV, putB]
  simp [flagOf]
theorem flag_bits (f a c : Bool) : (((2 ||| bitB f 4 ||| bitB a 8 ||| bitB c 16 : UInt8).toNat : Int) == 0) = false ∧ (bits .and .u8 ((2 ||| bitB f 4 ||| bitB a 8 ||| bitB c 16 : UInt8).toNat : Int) 2 == 0) = false ∧ (bits .andNot .u8 ((2 ||| bitB f 4 ||| bitB a 8 ||| bitB c 16 : UInt8).toNat : Int) 30 != 0) = false ∧
    (bits .and .u8 ((2 ||| bitB f 4 ||| bitB a 8 ||| bitB c 16 : UInt8).toNat : Int) 4 != 0) = f ∧ (bits .and .u8 ((2 ||| bitB f 4 ||| bitB a 8 ||| bitB c 16 : UInt8).toNat : Int) 8 != 0) = a ∧ (bits .and .u8 ((2 ||| bitB f 4 ||| bitB a 8 ||| bitB c 16 : UInt8).toNat : Int) 16 != 0) = c := by
  cases f <;> cases a <;> cases c <;> decide
theorem flag_facts (d : SeatD) : (((flagOf d).toNat : Int) == 0) = false ∧ (bits .and .u8 ((flagOf d).toNat : Int) 2 == 0) = false ∧ (bits .andNot .u8 ((flagOf d).toNat : Int) 30 != 0) = false ∧ (bits .and .u8 ((flagOf d).toNat : Int) 4 != 0) = d.folded ∧ (bits .and .u8 ((flagOf d).toNat : Int) 8 != 0) = d.allIn ∧ (bits .and .u8 ((flagOf d).toNat : Int) 16 != 0) = d.conn :=
  flag_bits d.folded d.allIn d.conn

theorem drop_app {out a b : List UInt8} {p : Nat} (h : out.drop p = a ++ b) : out.drop (p + a.length) = b := by rw [← List.drop_drop, h, List.drop_left]

theorem d_seats_none (s : Nat) (R : Nat → Prop) (out : List UInt8) (p : Nat) (ts : List (List UInt8)) (bv sv vbf : Value) (rest : List UInt8) (w : World) (h : Dec w s R out p ts bv sv) (hout : out.length ≤ 140737489403904) (hc : out.drop p = 0 :: rest) :
    Calls Try.prog 33 #[.pointer (some ⟨s, 0, none⟩), vbf] w fun e w' => e = .returned (.slice none 0 0) ∧ DecTo s R w out (p + 1) ts bv w' := by
  have hc' : out.drop p = Lib.uvarint 0 ++ rest := by rw [Lib.uvarint_small (by omega)]; exact hc
  have C := hd (d_uvarint s R out p ts bv sv 0 rest w h hout (by omega) hc')
  rw [Lib.uvarint_small (by omega)] at C
  clear h hc hc'
  go_enter Try.func33, Try.ntmps33
  go_wp2_with (go_at_call 41; refine C.out.mono ?_; rintro e w' ⟨rfl, ⟨sv', g1⟩, g2⟩; have b3 := g1.cells.2.2.2.1; have HG := hd (And.intro g1 g2); clear g1 g2)
  go_ret
  exact ⟨rfl, ⟨_, HG.out.1⟩, HG.out.2⟩

set_option linter.unusedSimpArgs false in
set_option maxRecDepth 100000 in
set_option maxHeartbeats 40000000 in
theorem d_seats_some (s : Nat) (R B : Nat → Prop) (out : List UInt8) (p : Nat) (ts : List (List UInt8)) (bv sv vbf : Value) (ds before : List SeatD) (rest : List UInt8) (w : World) (h : Dec w s R out p ts bv sv) (hout : out.length ≤ 140737489403904) (hroom : Room bv) (hB : ∀ i, B i → R i) (hbf : BeforeAt w B vbf before) (hbn : before.length ≤ 10923)
    (hn : ds.length ≤ 10923) (hok : ∀ d ∈ ds, SeatOk d) (hts : ts.length + 10923 ≤ 1073741824) (hc : out.drop p = Lib.uvarint (ds.length + 1) ++ ((putSeatsFrom before 0 ds ([], ts)).1 ++ rest)) :
    Calls Try.prog 33 #[.pointer (some ⟨s, 0, none⟩), vbf] w fun e w' => ∃ v, e = .returned v ∧ DecNew s R w out (p + (Lib.uvarint (ds.length + 1)).length + (putSeatsFrom before 0 ds ([], ts)).1.length) (putSeatsFrom before 0 ds ([], ts)).2 bv (fun N w' => SeatsAt w' (fun i => B i ∨ N i) v (some ds)) w' := by
  obtain ⟨i1, hi1, hy0, hy1, hy2⟩ := info69_parts
  have HBY : Hid (i1.bytes * ds.length ≤ 281474976710656) := Nat.le_trans (Nat.mul_le_mul hy2 hn) (by omega)
  have hc1 : out.drop (p + (Lib.uvarint (ds.length + 1)).length) = (putSeatsFrom before 0 ds ([], ts)).1 ++ rest := by rw [← List.drop_drop, hc, List.drop_left]
  have hleast : ds.length ≤ (putSeatsFrom before 0 ds ([], ts)).1.length := by
    obtain ⟨c, t, q1, q2⟩ := apps_SeatsFrom before 0 ds ts
    rw [q1 []]
    simpa using q2
  have hlt : p + (Lib.uvarint (ds.length + 1)).length + ds.length ≤ out.length := by
    have h1 := congrArg List.length hc1
    have h3 := congrArg List.length hc
    have := uvarint_pos (ds.length + 1)
    simp only [List.length_drop, List.length_append] at h1 h3
    omega
  have hl1 := uvarint_pos (ds.length + 1)
  have C := hd (d_uvarint s R out p ts bv sv (ds.length + 1) _ w h hout (by omega) hc)
  have HBY0 := hd h.bytes
  obtain ⟨ao, cap, hbv, h2⟩ := h.bytes
  rcases h2 with h2 | ⟨_, b, off, rfl, hRb, _⟩
  · omega
  subst hbv
  obtain ⟨ab, cb, hvb, HBF⟩ : ∃ ab cb, vbf = .slice ab before.length cb ∧ Hid (BeforeAt w B vbf before) := by
    have hbf' := hbf
    obtain ⟨ab, cb, hv, _⟩ := hbf'
    exact ⟨ab, cb, hv, hbf⟩
  subst hvb
  have HC1 := hd hc1
  have HOK := hd hok
  have HB := hd hB
  have HRM := hd hroom
  have HLE : Hid (∀ k, k ≤ ds.length → (seatsTo before ds ts k).2.length ≤ ts.length + k) := fun k hk => by
    have := (lenSeatsFrom before (ds.take k) 0 ([], ts) (fun d hd => hok d (List.mem_of_mem_take hd)) (by simp; omega)).2
    unfold seatsTo
    simp at this
    omega
  clear h hc hc1 hbf hok hB hleast hy2 hroom
  generalize hp1 : p + (Lib.uvarint (ds.length + 1)).length = p1 at *
  clear hp1 hl1
  have hcast : ((ds.length + 1 : Nat) : Int) = (ds.length : Int) + 1 := by omega
  rw [hcast] at C
  clear hcast
  go_enter Try.func33, Try.ntmps33
  go_wp2_with (go_at_call 41; refine C.out.mono ?_; rintro e w1 ⟨rfl, ⟨sv1, g1⟩, g2⟩; obtain ⟨b0, b1, b2, b3, f1, f2⟩ := g1.cells; have HG := hd (And.intro g1 g2); clear g1 g2 b2 f2)
  have d1 : decide ((out.length : Int) - (p1 : Int) < (ds.length : Int)) = false := by simp; omega
  go_quiet (fail)
  generalize hW1 : w1.drewN nq = W1
  have HG1 : Hid (Dec W1 s R out p1 ts (.slice (some ⟨b, off, none⟩) out.length cap) sv1 ∧ Fr R w W1) := by
    rw [← hW1]
    exact ⟨HG.out.1.drewN _, HG.out.2.drewN _⟩
  clear hW1 HG b0 b1 b3 f1 C
  have HR : Hid (∀ i, R i → i < W1.heap.size) := HG1.out.1.base
  go_wp2_with (at_make; refine wpList_make_full _ rfl _ _ 46 rfl W1.heap.size 69 i1 _ 8 Try.underlying46 hi1 hy0 hy1 _ _ _ _ ds.length rfl rfl rfl rfl HBY.out (by unfold maxLen; omega) (Nat.le_refl _) ?_; intro w2 hown hgrow; have hbl : Below W1.heap.size W1 w2 := (Below.refl _ _).grown hgrow (Nat.le_refl _) (fun k h => by cases h); have HBL := hd hbl; have HOWN := hd hown; clear hbl hown hgrow)
  have HI0 : Hid (SIn w W1 w2 s R B (fun _ => False) out p1 ts (.slice (some ⟨b, off, none⟩) out.length cap) sv1 ds.length 0 ds) := by
    rcases HOWN.out.2 with ⟨h, _⟩ | ⟨g, cap', cur, h, _, hg, _, _, hsz1, _⟩
    · simp at h
    · have e1 : g = W1.heap.size ∧ cap' = ds.length := by
        simp only [Value.slice.injEq, Option.some.injEq, Addr.mk.injEq, and_true, true_and] at h
        exact ⟨h.1.symm, h.2.symm⟩
      obtain ⟨rfl, rfl⟩ := e1
      have hlt2 : W1.heap.size < w2.heap.size := (Array.getElem?_eq_some_iff.1 hg).1
      refine ⟨fun i hi => hi.elim, (HG1.out.1.below HBL.out).more (fun i hi => .inl (.inl hi)) (fun i hi => ?_), HG1.out.2.belowAll HR.out HBL.out, ⟨cur, hg, hsz1⟩, fun j hj => by omega⟩
      rcases hi with (hi | hi) | rfl
      · exact ⟨Nat.lt_of_lt_of_le (HR.out i hi) HBL.out.size, fun e => HG1.out.1.here (e ▸ hi), fun e => HG1.out.1.sat i e hi⟩
      · exact hi.elim
      · exact ⟨hlt2, fun e => by have := HG1.out.1.lt; omega, fun e => by have := own_lt HG1.out.1.strs _ e; omega⟩
  clear HOWN HBL
  go_loopw [7, 8, 9, 44] (fun _ _ _ i wr => ∃ k : Nat, k ≤ ds.length ∧ i = .int .i64 k ∧ Hid (∃ N sv, SIn w W1 wr s R B N out (p1 + (seatsTo before ds ts k).1.length) (seatsTo before ds ts k).2 (.slice (some ⟨b, off, none⟩) out.length cap) sv ds.length k ds)) (fun _ _ _ i _ => ds.length - (intOf i).toNat)
  case atStart =>
    refine ⟨0, Nat.zero_le _, rfl, fun _ => False, sv1, ?_⟩
    rw [seatsTo_zero]
    exact HI0.out
  case round =>
    obtain ⟨k, hk, rfl, HI⟩ := hrel
    obtain ⟨N, svk, hI⟩ := HI.out
    have HS := hd hI
    clear hI HI
    by_cases hkl : k < ds.length
    · obtain ⟨d, hdk⟩ : ∃ d, ds[k]? = some d := ⟨_, List.getElem?_eq_getElem hkl⟩
      obtain ⟨r, hr⟩ := seat_here HC1.out hdk
      have HST := hd (seatsTo_step (before := before) (ts := ts) hdk)
      have HDK := hd hdk
      have hlk := HLE.out k hk
      have HSE := hd (HOK.out d (List.mem_of_getElem? hdk))
      generalize hpk : p1 + (seatsTo before ds ts k).1.length = pk at *
      generalize htk : (seatsTo before ds ts k).2 = tk at *
      have HPK := hd hpk
      clear hdk hpk htk
      by_cases hsm : (before[k]?).any (sameSeatD d) = true
      · --{SAME
        obtain ⟨bd, hbd, hsm2⟩ : ∃ bd, before[k]? = some bd ∧ sameSeatD d bd = true := by
          cases hb : before[k]? with
          | none => rw [hb] at hsm; simp at hsm
          | some bd => rw [hb] at hsm; exact ⟨bd, rfl, by simpa using hsm⟩
        have hkb : k < before.length := (List.getElem?_eq_some_iff.1 hbd).1
        obtain rfl := same_eq hsm2
        have hput : putSeat d before[k]? ([], tk) = ([0], tk) := by unfold putSeat; rw [hsm]; rfl
        rw [hput] at hr HST
        have HST2 : Hid (p1 + (seatsTo before ds ts (k + 1)).1.length = pk + 1 ∧ (seatsTo before ds ts (k + 1)).2 = tk) := by
          show _ ∧ _
          rw [HST.out, ← HPK.out]
          exact ⟨by simp; omega, rfl⟩
        have CB := hd (d_byte s _ out pk tk _ svk 0 r wr HS.out.dec hout hr)
        obtain ⟨b2, o2, x2, y2, z2, rfl, HSA⟩ : ∃ b2 o2 x2 y2 z2, ab = some ⟨b2, o2, none⟩ ∧ Hid (SeatAt w B b2 (o2 + k * 8) d (.slice x2 y2 z2)) := by
          obtain ⟨ab', cb', hv, h2⟩ := HBF.out
          obtain rfl : ab = ab' := by injection hv
          rcases h2 with h2 | ⟨_, b2, o2, h3, h4⟩
          · omega
          · obtain ⟨d', cv, q1, q2⟩ := h4.out k hkb
            obtain rfl := Option.some.inj (hbd.symm.trans q1)
            obtain ⟨x2, y2, z2, rfl⟩ := cards_form q2.cards
            exact ⟨b2, o2, x2, y2, z2, h3, q2⟩
        clear hsm hsm2 hput hr HST HPK hbd
        have d2 : decide (before.length ≤ k) = false := by simp; omega
        go_upto_region 13 with (go_at_call 42; refine CB.out.mono ?_; rintro e w2 ⟨rfl, ⟨sv2, g1⟩, g2⟩; have HG2 := hd (And.intro g1 g2); have b3 := g1.cells.2.2.2.1; clear g1 g2)
        have hsa2 := HSA.out.kept (w' := w2) (fun i hi => (HG2.out.2.block i (.inl (.inl (HB.out i hi)))).trans (HS.out.fr.block i (HB.out i hi)))
        have HRG := hd (seat_range hsa2)
        obtain ⟨HTH, HI2⟩ := HS.out.step (N2 := N) (p2 := pk + 1) (ts2 := tk) hkl HDK.out HR.out HB.out (fun _ h => h) (fun i hi => ⟨(HS.out.new i hi).1, Nat.lt_of_lt_of_le (HS.out.new i hi).2 HG2.out.2.size⟩) HG2.out.2 HG2.out.1 HBY0.out (hsa2.cards.more (fun i hi => .inl hi))
        have HTH := hd HTH
        have HI2 := hd HI2
        clear hsa2 CB
        go_wp2_with (first
          | (refine wpList_store_mid2 rfl 69 _ _ rfl W1.heap.size (k * 8) (seatCells d (.slice x2 y2 z2)).toArray rfl rfl HTH.out Try.siz69 (seat_one d _ rfl) ?_; intro wz HWZ)
          | (refine wpList_load_mid rfl 69 _ rfl b2 (o2 + k * 8) rfl (seatCells d (.slice x2 y2 z2)) _ HRG.out Try.underlying69 rfl Try.siz69 ?_))
        go_roundw
        case rel => exact ⟨k + 1, by omega, by go_num, N, sv2, by rw [HST2.out.1, HST2.out.2, HWZ.out]; exact HI2.out⟩
        case measure => simp [intOf]; omega
        --}SAME
      · --{DIFF
        have hsm : (before[k]?).any (sameSeatD d) = false := by simpa using hsm
        have hput := putSeat_diff hsm tk
        rw [hput] at hr HST
        obtain ⟨q0, q1, q2, q3, q4, q5⟩ := flag_facts d
        simp only [List.cons_append, List.append_assoc] at hr
        have CB := hd (d_byte s _ out pk tk _ svk (flagOf d) _ wr HS.out.dec hout hr)
        have HE1 := hd (drop_cons hr).2.2
        clear hput hr
        go_upto_region 13 with (go_at_call 42; refine CB.out.mono ?_; rintro e w2 ⟨rfl, ⟨sv2, g1⟩, g2⟩; have HG2 := hd (And.intro g1 g2); have b3 := g1.cells.2.2.2.1; clear g1 g2)
        have HT0 := hd (TIn.alloc (R0 := R) (F := fun i => (R i ∨ N i) ∨ i = W1.heap.size) HG2.out.1 ((HBY0.out.kept HS.out.fr.block).kept (fun i hi => HG2.out.2.block i (.inl (.inl hi)))) (fun i hi => .inl (.inl hi)) (fun i hi => hi) 69 #[.int .i64 0, .string ⟨#[]⟩, .int .i64 0, .int .i64 0, .bool d.folded, .bool d.allIn, .slice none 0 0, .bool d.conn])
        generalize flagOf d = fl at *
        have HE2 := hd (drop_app HE1.out)
        have HE3 := hd (drop_app HE2.out)
        have HE4 := hd (drop_app HE3.out)
        have HE5 := hd (drop_app HE4.out)
        have HL1 := hd (HSE.out)
        go_upto_region 27 with fail
        obtain ⟨T, HTT⟩ : ∃ T, Hid (w2.heap.size = T) := ⟨_, rfl⟩
        rw [HTT.out] at HT0 ⊢
        generalize hW3 : w2.alloc (.cells #[.int .i64 0, .string ⟨#[]⟩, .int .i64 0, .int .i64 0, .bool d.folded, .bool d.allIn, .slice none 0 0, .bool d.conn] 69) = W3 at HT0 ⊢
        clear hW3 b3 CB
        have htk1 : (putStr d.name ([], tk)).2.length ≤ 1073741824 := by have := (lenStr d.name ([], tk) (by simp; omega) (by have := HSE.out.name; omega)).2; simp at this; omega
        have CC0 := hd (d_int s _ out _ tk _ sv2 d.seat _ W3 HT0.out.dec hout HSE.out.seat HE1.out)
        go_upto_region 28 with (go_at_call 31; refine CC0.out.mono ?_; rintro e v0 ⟨rfl, ⟨sw0, g1⟩, g2⟩; have HU0 := hd (HT0.out.call g1 g2); have hc : v0.cell? ⟨T, 0, none⟩ = some (.int .i64 0) := (HU0.out.cell 0).1; have hf := (HU0.out.cell 0).2; clear g1 g2)
        have HP0 := hd (HU0.out.poke 0 (.int .i64 d.seat))
        simp only [List.setIfInBounds_toArray, List.set_cons_zero, List.set_cons_succ] at HP0
        generalize v0.setCell ⟨T, 0, none⟩ (.int .i64 d.seat) = V0 at HP0 ⊢
        clear hc hf CC0 HU0
        have CC1 := hd (d_string s _ out _ tk _ sw0 d.name _ V0 HP0.out.dec hout HRM.out (by omega) HE2.out)
        unfold encS at CC1
        go_upto_region 29 with (go_at_call 28; refine CC1.out.mono ?_; rintro e v1 ⟨rfl, ⟨sw1, g1⟩, g2⟩; have HU1 := hd (HP0.out.call g1 g2); have hc : v1.cell? ⟨T, 1, none⟩ = some (.string ⟨#[]⟩) := (HU1.out.cell 1).1; have hf := (HU1.out.cell 1).2; clear g1 g2)
        have HP1 := hd (HU1.out.poke 1 (.string ⟨d.name.toArray⟩))
        simp only [List.setIfInBounds_toArray, List.set_cons_zero, List.set_cons_succ] at HP1
        generalize v1.setCell ⟨T, 1, none⟩ (.string ⟨d.name.toArray⟩) = V1 at HP1 ⊢
        clear hc hf CC1 HU1 HP0
        have CC2 := hd (d_int s _ out _ (putStr d.name ([], tk)).2 _ sw1 d.stack _ V1 HP1.out.dec hout HSE.out.stack HE3.out)
        go_upto_region 30 with (go_at_call 31; refine CC2.out.mono ?_; rintro e v2 ⟨rfl, ⟨sw2, g1⟩, g2⟩; have HU2 := hd (HP1.out.call g1 g2); have hc : v2.cell? ⟨T, 2, none⟩ = some (.int .i64 0) := (HU2.out.cell 2).1; have hf := (HU2.out.cell 2).2; clear g1 g2)
        have HP2 := hd (HU2.out.poke 2 (.int .i64 d.stack))
        simp only [List.setIfInBounds_toArray, List.set_cons_zero, List.set_cons_succ] at HP2
        generalize v2.setCell ⟨T, 2, none⟩ (.int .i64 d.stack) = V2 at HP2 ⊢
        clear hc hf CC2 HU2 HP1
        have CC3 := hd (d_int s _ out _ (putStr d.name ([], tk)).2 _ sw2 d.bet _ V2 HP2.out.dec hout HSE.out.bet HE4.out)
        go_upto_region 31 with (go_at_call 31; refine CC3.out.mono ?_; rintro e v3 ⟨rfl, ⟨sw3, g1⟩, g2⟩; have HU3 := hd (HP2.out.call g1 g2); have hc : v3.cell? ⟨T, 3, none⟩ = some (.int .i64 0) := (HU3.out.cell 3).1; have hf := (HU3.out.cell 3).2; clear g1 g2)
        have HP3 := hd (HU3.out.poke 3 (.int .i64 d.bet))
        simp only [List.setIfInBounds_toArray, List.set_cons_zero, List.set_cons_succ] at HP3
        generalize v3.setCell ⟨T, 3, none⟩ (.int .i64 d.bet) = V3 at HP3 ⊢
        clear hc hf CC3 HU3 HP2
        have CC4 := hd (d_cards s _ out _ (putStr d.name ([], tk)).2 _ sw3 d.cards r V3 HP3.out.dec hout HSE.out.cards HE5.out)
        go_upto_region 32 with (go_at_call 32; refine CC4.out.mono ?_; rintro e v4 ⟨vc, rfl, N4, n4, ⟨sw4, g1⟩, g2, g3⟩; obtain ⟨x4, y4, z4, hvc⟩ := cards_form g3; subst hvc; have HU4 := hd (HP3.out.callNew n4 g1 g2); have HN4 := hd (And.intro n4 g3); have hc : v4.cell? ⟨T, 6, none⟩ = some (.slice none 0 0) := (HU4.out.cell 6).1; have hf := (HU4.out.cell 6).2; clear g1 g2 g3 n4)
        have HP4 := hd (HU4.out.poke 6 (.slice x4 y4 z4))
        simp only [List.setIfInBounds_toArray, List.set_cons_zero, List.set_cons_succ] at HP4
        have HNT : Hid (∀ i, N4 i → W1.heap.size < i ∧ i < v4.heap.size ∧ i ≠ T) := fun i hi => by
          have q1 := HN4.out.1 i hi
          have q2 := HP3.out.dec.base W1.heap.size (.inl (.inr rfl))
          have q3 := HP3.out.dec.base T (.inr rfl)
          exact ⟨by omega, q1.2, by omega⟩
        have HC4 : Hid (CardsAt (v4.setCell ⟨T, 6, none⟩ (.slice x4 y4 z4)) N4 (.slice x4 y4 z4) d.cards) := HN4.out.2.kept (fun i hi => Below.heap_setCell _ _ _ _ (HNT.out i hi).2.2)
        have HSZ4 : Hid ((v4.setCell ⟨T, 6, none⟩ (.slice x4 y4 z4)).heap.size = v4.heap.size) := by show _ = _; simp [World.setCell]
        generalize v4.setCell ⟨T, 6, none⟩ (.slice x4 y4 z4) = V4 at HP4 HC4 HSZ4 ⊢
        clear hc hf CC4 HU4 HP3 HN4
        have HRT := hd (HP4.out.range (cs := seatCells d (.slice x4 y4 z4)) rfl)
        have b3 := HP4.out.dec.cells.2.2.2.1
        have HFR : Hid (Fr (fun i => (R i ∨ N i) ∨ i = W1.heap.size) wr V4) := HG2.out.2.trans HP4.out.fr
        have HST2 : Hid (p1 + (seatsTo before ds ts (k + 1)).1.length = pk + 1 + (vb d.seat).length + (putStr d.name ([], tk)).1.length + (vb d.stack).length + (vb d.bet).length + (putCards d.cards ([], [])).1.length ∧ (seatsTo before ds ts (k + 1)).2 = (putStr d.name ([], tk)).2) := by
          show _ ∧ _
          rw [HST.out, ← HPK.out]
          exact ⟨by simp only [List.length_append, List.length_cons]; omega, rfl⟩
        have HEND : Hid (∀ Wf, Below V4.heap.size V4 Wf → Wf.rangeAt T 0 (seatCells d (.slice x4 y4 z4)) ∧ Wf.there W1.heap.size (k * 8) 8 ∧ ∃ N' sv', SIn w W1 (Wf.setCells W1.heap.size (k * 8) (seatCells d (.slice x4 y4 z4))) s R B N' out (p1 + (seatsTo before ds ts (k + 1)).1.length) (seatsTo before ds ts (k + 1)).2 (.slice (some ⟨b, off, none⟩) out.length cap) sv' ds.length (k + 1) ds) := fun Wf hb => by
          refine ⟨range_below hb (HP4.out.dec.base T (.inr rfl)) HRT.out, ?_⟩
          rw [HST2.out.1, HST2.out.2]
          have hfr : Fr (fun i => (R i ∨ N i) ∨ i = W1.heap.size) wr Wf := HFR.out.belowAll (fun i hi => HP4.out.dec.base i (.inl (.inl hi))) hb
          have hdec : Dec V4 s (fun i => (R i ∨ (N i ∨ N4 i)) ∨ i = W1.heap.size) out _ _ _ sw4 := HP4.out.dec.less (HP4.out.bytes.more (fun i hi => .inl (.inl hi))) (fun i hi => by rcases hi with (hi | hi | hi) | hi; exact .inl (.inl (.inl (.inl hi))); exact .inl (.inl (.inl (.inr hi))); exact .inl (.inr hi); exact .inl (.inl (.inr hi)))
          obtain ⟨q1, q2⟩ := HS.out.step (N2 := fun i => N i ∨ N4 i) hkl HDK.out HR.out HB.out (fun _ h => .inl h) (fun i hi => by
            have hs := hb.size
            have h4 := HSZ4.out
            rcases hi with hi | hi
            · exact ⟨(HS.out.new i hi).1, Nat.lt_of_lt_of_le (HS.out.new i hi).2 hfr.size⟩
            · have := HNT.out i hi; exact ⟨this.1, by omega⟩) hfr (hdec.below hb) HBY0.out ((HC4.out.kept (Below.sameOf hb (fun i hi => by have := HNT.out i hi; have h4 := HSZ4.out; omega))).more (fun i hi => .inr (.inr hi)))
          exact ⟨q1, _, _, q2⟩
        by_cases hkb : k < before.length
        · obtain ⟨bd, hbd⟩ : ∃ bd, before[k]? = some bd := ⟨_, List.getElem?_eq_getElem hkb⟩
          have hdiff : sameSeatD d bd = false := by rw [hbd] at hsm; simpa using hsm
          obtain ⟨b2, o2, x2, y2, z2, rfl, HSA⟩ : ∃ b2 o2 x2 y2 z2, ab = some ⟨b2, o2, none⟩ ∧ Hid (SeatAt w B b2 (o2 + k * 8) bd (.slice x2 y2 z2)) := by
            obtain ⟨ab', cb', hv, h2⟩ := HBF.out
            obtain rfl : ab = ab' := by injection hv
            rcases h2 with h2 | ⟨_, b2, o2, h3, h4⟩
            · omega
            · obtain ⟨d', cv, q1, q2⟩ := h4.out k hkb
              obtain rfl := Option.some.inj (hbd.symm.trans q1)
              obtain ⟨x2, y2, z2, rfl⟩ := cards_form q2.cards
              exact ⟨b2, o2, x2, y2, z2, h3, q2⟩
          have HSV : Hid (∀ W', Below V4.heap.size V4 W' → SeatAt W' B b2 (o2 + k * 8) bd (.slice x2 y2 z2)) := fun W' hb => (HSA.out.kept (w' := V4) (fun i hi => (HFR.out.block i (.inl (.inl (HB.out i hi)))).trans (HS.out.fr.block i (HB.out i hi)))).kept (Below.sameOf hb (fun i hi => HP4.out.dec.base i (.inl (.inl (.inl (.inl (HB.out i hi)))))))
          have HS0 : Hid (Below V4.heap.size V4 V4.drew) := (Below.refl _ _).drew
          have HSS := hd (sameSeat37 N4 B d bd (.slice x4 y4 z4) (.slice x2 y2 z2) V4.drew (fun i hi => by have := HNT.out i hi; have h4 := HSZ4.out; show i < V4.heap.size; omega) (fun i hi => HP4.out.dec.base i (.inl (.inl (.inl (.inl (HB.out i hi)))))) (HC4.out.kept (Same.drew _ _)) (HSV.out _ HS0.out).cards HSE.out.cards)
          rw [hdiff] at HSS
          have HR1 : Hid (∀ W', Below V4.heap.size V4 W' → W'.rangeAt T 0 (seatCells d (.slice x4 y4 z4))) := fun W' hb => range_below hb (HP4.out.dec.base T (.inr rfl)) HRT.out
          have HR2 : Hid (∀ W', Below V4.heap.size V4 W' → W'.rangeAt b2 (o2 + k * 8) (seatCells bd (.slice x2 y2 z2))) := fun W' hb => seat_range (HSV.out W' hb)
          have d4 : decide (k < before.length) = true := by simp; omega
          clear hsm hdiff hbd
          go_upto_region 34 with fail
          refine wp_region_Z (fun w' => Below V4.heap.size V4 w') 11 (by kernel_rfl) ?_
          show wpZ _ _ _ _ _ 12 (Array.replicate 12 false) _ _
          refine wpZ_take (i := 0) (v := .int .i64 k) [4, 3] rfl (by kernel_rfl) (by kernel_rfl) (by kernel_rfl) (by kernel_rfl) (fun _ _ _ h => h) (.inl ⟨rfl, fun w' hS => ?_⟩) HS0.out ?_
          · go_simp
          try simp only [Act.put, List.getElem_toArray, List.getElem_cons_succ, List.getElem_cons_zero, List.setIfInBounds_toArray, List.set_cons_zero, List.set_cons_succ]
          refine wpZ_take (i := 1) (v := .slice (some ⟨b2, o2, none⟩) before.length cb) [4, 3, 2] rfl (by kernel_rfl) (by kernel_rfl) (by kernel_rfl) (by kernel_rfl) (fun _ _ _ h => h) (.inl ⟨rfl, fun w' hS => ?_⟩) HS0.out ?_
          · go_simp
          try simp only [Act.put, List.getElem_toArray, List.getElem_cons_succ, List.getElem_cons_zero, List.setIfInBounds_toArray, List.set_cons_zero, List.set_cons_succ]
          refine wpZ_take (i := 2) (v := .int .i64 before.length) [4, 3] rfl (by kernel_rfl) (by kernel_rfl) (by kernel_rfl) (by kernel_rfl) (fun _ _ _ h => h) (.inl ⟨rfl, fun w' hS => ?_⟩) HS0.out ?_
          · go_simp
          try simp only [Act.put, List.getElem_toArray, List.getElem_cons_succ, List.getElem_cons_zero, List.setIfInBounds_toArray, List.set_cons_zero, List.set_cons_succ]
          refine wpZ_take (i := 3) (v := .bool true) [4] rfl (by kernel_rfl) (by kernel_rfl) (by kernel_rfl) (by kernel_rfl) (fun _ _ _ h => h) (.inl ⟨rfl, fun w' hS => ?_⟩) HS0.out ?_
          · go_simp
          try simp only [Act.put, List.getElem_toArray, List.getElem_cons_succ, List.getElem_cons_zero, List.setIfInBounds_toArray, List.set_cons_zero, List.set_cons_succ]
          refine wpZ_take (i := 4) (v := .bool true) [] rfl (by kernel_rfl) (by kernel_rfl) (by kernel_rfl) (by kernel_rfl) (fun _ _ _ h => h) (.inl ⟨rfl, fun w' hS => ?_⟩) HS0.out ?_
          · go_simp
          try simp only [Act.put, List.getElem_toArray, List.getElem_cons_succ, List.getElem_cons_zero, List.setIfInBounds_toArray, List.set_cons_zero, List.set_cons_succ]
          refine wpZ_take (i := 6) (v := .slice (some ⟨b2, o2, none⟩) before.length cb) [10, 9, 8] rfl (by kernel_rfl) (by kernel_rfl) (by kernel_rfl) (by kernel_rfl) (fun _ _ _ h => h) (.inl ⟨rfl, fun w' hS => ?_⟩) HS0.out ?_
          · go_simp
          try simp only [Act.put, List.getElem_toArray, List.getElem_cons_succ, List.getElem_cons_zero, List.setIfInBounds_toArray, List.set_cons_zero, List.set_cons_succ]
          refine wpZ_take (i := 7) (v := .int .i64 k) [10, 9, 8] rfl (by kernel_rfl) (by kernel_rfl) (by kernel_rfl) (by kernel_rfl) (fun _ _ _ h => h) (.inl ⟨rfl, fun w' hS => ?_⟩) HS0.out ?_
          · go_simp
          try simp only [Act.put, List.getElem_toArray, List.getElem_cons_succ, List.getElem_cons_zero, List.setIfInBounds_toArray, List.set_cons_zero, List.set_cons_succ]
          refine wpZ_take (i := 8) (v := .pointer (some ⟨b2, o2 + k * 8, none⟩)) [10, 9] rfl (by kernel_rfl) (by kernel_rfl) (by kernel_rfl) (by kernel_rfl) (fun _ _ _ h => h) (.inl ⟨rfl, fun w' hS => ?_⟩) HS0.out ?_
          · go_simp
          try simp only [Act.put, List.getElem_toArray, List.getElem_cons_succ, List.getElem_cons_zero, List.setIfInBounds_toArray, List.set_cons_zero, List.set_cons_succ]
          refine wpZ_take (i := 5) (v := .agg (seatCells d (.slice x4 y4 z4)).toArray) [10] rfl (by kernel_rfl) (by kernel_rfl) (by kernel_rfl) (by kernel_rfl) (fun _ _ _ h => h) (yieldsIf_load_mid rfl 69 _ rfl T 0 rfl (seatCells d (.slice x4 y4 z4)) _ (fun w' hS => HR1.out w' hS) Try.underlying69 rfl Try.siz69) HS0.out ?_
          try simp only [Act.put, List.getElem_toArray, List.getElem_cons_succ, List.getElem_cons_zero, List.setIfInBounds_toArray, List.set_cons_zero, List.set_cons_succ]
          refine wpZ_take (i := 9) (v := .agg (seatCells bd (.slice x2 y2 z2)).toArray) [10] rfl (by kernel_rfl) (by kernel_rfl) (by kernel_rfl) (by kernel_rfl) (fun _ _ _ h => h) (yieldsIf_load_mid rfl 69 _ rfl b2 (o2 + k * 8) rfl (seatCells bd (.slice x2 y2 z2)) _ (fun w' hS => HR2.out w' hS) Try.underlying69 rfl Try.siz69) HS0.out ?_
          try simp only [Act.put, List.getElem_toArray, List.getElem_cons_succ, List.getElem_cons_zero, List.setIfInBounds_toArray, List.set_cons_zero, List.set_cons_succ]
          refine wpZ_one (i := 10) (by kernel_rfl) (wpOp_want rfl rfl ?_)
          go_simp
          go_at_call 37
          refine HSS.out.mono ?_
          rintro e Wf ⟨rfl, hb5⟩
          have HBf : Hid (Below V4.heap.size V4 Wf) := HS0.out.trans (hb5.mono HS0.out.size)
          clear hb5
          refine ⟨HBf.out, ?_⟩
          try simp only [Act.put, List.getElem_toArray, List.getElem_cons_succ, List.getElem_cons_zero, List.setIfInBounds_toArray, List.set_cons_zero, List.set_cons_succ]
          refine wpZ_one (i := 11) (by kernel_rfl) (wpOp_want rfl rfl ?_)
          go_simp
          refine wpZ_done (by kernel_rfl) ?_
          try simp only [Act.put, List.getElem_toArray, List.getElem_cons_succ, List.getElem_cons_zero, List.setIfInBounds_toArray, List.set_cons_zero, List.set_cons_succ]
          obtain ⟨hrw, hth, N', sv', hi2⟩ := HEND.out Wf HBf.out
          have HRW := hd hrw
          have HTH := hd hth
          have HI2 := hd hi2
          clear hrw hth hi2 HSS HR1 HR2 HSV HS0
          go_wp2_with (first
            | (refine wpList_store_mid2 rfl 69 _ _ rfl W1.heap.size (k * 8) (seatCells d (.slice x4 y4 z4)).toArray rfl rfl HTH.out Try.siz69 (seat_one d _ rfl) ?_; intro wz HWZ)
            | (refine wpList_load_mid rfl 69 _ rfl T 0 rfl (seatCells d (.slice x4 y4 z4)) _ HRW.out Try.underlying69 rfl Try.siz69 ?_))
          go_roundw
          case rel => exact ⟨k + 1, by omega, by go_num, N', sv', by rw [HWZ.out]; exact HI2.out⟩
          case measure => simp [intOf]; omega
        · have d4 : decide (k < before.length) = false := by simp; omega
          go_upto_region 34 with fail
          go_quiet (fail)
          obtain ⟨hrw, hth, N', sv', hi2⟩ := HEND.out (V4.drewN nq) ⟨rfl, rfl, rfl, Nat.le_refl _, fun _ _ => rfl⟩
          have HRW := hd hrw
          have HTH := hd hth
          have HI2 := hd hi2
          clear hrw hth hi2
          go_wp2_with (first
            | (refine wpList_store_mid2 rfl 69 _ _ rfl W1.heap.size (k * 8) (seatCells d (.slice x4 y4 z4)).toArray rfl rfl HTH.out Try.siz69 (seat_one d _ rfl) ?_; intro wz HWZ)
            | (refine wpList_load_mid rfl 69 _ rfl T 0 rfl (seatCells d (.slice x4 y4 z4)) _ HRW.out Try.underlying69 rfl Try.siz69 ?_))
          go_roundw
          case rel => exact ⟨k + 1, by omega, by go_num, N', sv', by rw [HWZ.out]; exact HI2.out⟩
          case measure => simp [intOf]; omega
        --}DIFF
    · obtain rfl : k = ds.length := by omega
      go_wp2
      go_ret
      rw [seatsTo_all] at HS
      have hm := HS.out.made
      exact ⟨_, rfl, fun i => N i ∨ i = W1.heap.size, fun i hi => ⟨by have := HG1.out.2.size; rcases hi with hi | rfl; have := (HS.out.new i hi).1; omega; exact this, by rcases hi with hi | rfl; exact (HS.out.new i hi).2; exact HS.out.dec.base _ (.inr rfl)⟩, ⟨_, HS.out.dec.same (fun i => ⟨fun h => by rcases h with (h | h) | h; exact .inl h; exact .inr (.inl h); exact .inr (.inr h), fun h => by rcases h with h | h | h; exact .inl (.inl h); exact .inl (.inr h); exact .inr h⟩)⟩, HS.out.fr, hm⟩
end Go.Proofs.Qxb6618929a
