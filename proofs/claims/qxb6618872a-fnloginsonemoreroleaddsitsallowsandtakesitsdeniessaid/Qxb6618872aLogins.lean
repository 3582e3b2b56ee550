/-
  (*Policy).logins and ZZloginsNamed.
-/
import Derived.Test.Qxb6618872aSorted
namespace Go.Proofs.Qxb6618872a
open Go Go.RowKit

/-- The logins that the roles of name pk allow. -/
def allowed (rs : List RIn) (pk : ByteArray) : List (List UInt8) := rs.flatMap fun r => if r.name.toList == pk.toList then keysOf r.al else []

theorem allowed_snoc (rs : List RIn) (pk : ByteArray) (k : Nat) (hk : k < rs.length) (l : List UInt8) :
    l ∈ allowed (rs.take (k + 1)) pk ↔ l ∈ (if (rs.getD k RIn.none).name.toList == pk.toList then keysOf (rs.getD k RIn.none).al else []) ∨ l ∈ allowed (rs.take k) pk := by
  unfold allowed
  rw [List.take_succ_eq_append_getElem hk, List.flatMap_append, List.mem_append, Or.comm]
  simp [List.getD, hk]

theorem wpList_load56 {ops : Array Oper} {rest : List Oper} {op : Oper} {a : Act} {w : World} {Q : Exit → Act → World → Prop} (hgd : op.guard = none) (x : Operand) (ho : op.op = .load 56 x)
    (b o : Nat) (hx : a.eval x = .pointer (some ⟨b, o, none⟩)) (c : CR) (hc : w.rangeAt b o c.cells)
    (h : wpList Try.prog ops Q rest (a.put op.dst (.agg (cells56 c.nm c.a c.d))) w) : wpList Try.prog ops Q (op :: rest) a w :=
  wpList_load_mid hgd 56 x ho b o hx c.cells _ hc Try.underlying56 rfl (by rw [size56]; rfl) h

theorem range_new (w : World) (c : CR) : (w.alloc (.cells (cells56 c.nm c.a c.d) 56)).rangeAt w.heap.size 0 c.cells := fun j v hv => by
  rw [cell_of_row _ _ _ _ _ _ (heap_alloc_last w _)]
  simpa [CR.cells] using hv

theorem run_makeMap_none (w : World) : (Instr.makeMap 32 none).run Try.prog w = .ok (.map (some w.heap.size)) (w.alloc (.map #[] 0)) := by
  simp [Instr.makeMap, Result.andThen]

theorem owns_base {w : World} {base base' e size n : Nat} {v : Value} {xs : List Value} (h : w.ownsRow base e size v n xs) (hb : base' ≤ base) : w.ownsRow base' e size v n xs := by
  obtain ⟨h1, h2⟩ := h
  refine ⟨h1, ?_⟩
  rcases h2 with h2 | ⟨g, cap, cur, hv, hbg, hg⟩
  · exact .inl h2
  · exact .inr ⟨g, cap, cur, hv, Nat.le_trans hb hbg, hg⟩

set_option maxRecDepth 100000 in
set_option maxHeartbeats 4000000 in
theorem logins {w : World} {p : Value} {rs : List RIn} (hp : PolAt w p rs) (hn : rs.length ≤ 1048577) (hsm : ∀ r ∈ rs, Small r) (pb : Nat) (pk : ByteArray) (hpb : pb < w.heap.size) (hpk : w.cell? ⟨pb, 0, none⟩ = some (.string pk)) :
    Calls Try.prog 12 #[p, .func (.func 13) #[] #[.pointer (some ⟨pb, 0, none⟩)]] w fun e w' => ∃ (v : Value) (L : List (List UInt8)), e = .returned v ∧ Rising L ∧ (∀ l, l ∈ L ↔ l ∈ allowed rs pk ∧ denied rs l = false) ∧ (∀ l ∈ L, l.length ≤ maxLen) ∧ L.length ≤ 2199023255552 ∧
      w'.ownsRow w.heap.size 9 1 v L.length (L.map encStr) ∧ w.grownBy w' none := by
  have hbl : Below w.heap.size w (w.alloc (.cells #[p] 30)) := (Below.refl w.heap.size w).alloc (Nat.le_refl _) _
  have hpk1 := (hbl.cell (p := ⟨pb, 0, none⟩) hpb).trans hpk
  have hp1 := hp.below hbl
  obtain ⟨W1, hW1⟩ : ∃ W1, w.alloc (.cells #[p] 30) = W1 := ⟨_, rfl⟩
  have htb : W1.cell? ⟨w.heap.size, 0, none⟩ = some p := by rw [← hW1]; simp
  have hsz : W1.heap.size = w.heap.size + 1 := by rw [← hW1]; simp
  obtain ⟨pl, g, cap, ms, rfl, q2, q3, q4, q5, q6, q7⟩ := hp1
  rw [hW1] at q2 q3 q4 q6 q7 hpk1
  have HP := hd (show PolAt W1 (.pointer (some ⟨pl, 0, none⟩)) rs from ⟨pl, g, cap, ms, rfl, q2, q3, q4, q5, q6, q7⟩)
  have HBL := hd (hW1 ▸ hbl)
  have HT := hd htb
  have HQ6 := hd q6
  have HQ7 := hd q7
  have HSM := hd hsm
  have HPK := hd hpk1
  clear hp hbl hpk htb q6 q7 hsm hpk1
  have hmm := run_makeMap_none
  have hT2 : (W1.alloc (.map #[] 0)).cell? ⟨w.heap.size, 0, none⟩ = some (.pointer (some ⟨pl, 0, none⟩)) := (((Below.refl W1.heap.size W1).alloc (Nat.le_refl _) _).cell (p := ⟨w.heap.size, 0, none⟩) (by show w.heap.size < W1.heap.size; omega)).trans HT.out
  have hq3 : (W1.alloc (.map #[] 0)).cell? ⟨pl, 0, none⟩ = some (.slice (some ⟨g, 0, none⟩) rs.length cap) := (((Below.refl W1.heap.size W1).alloc (Nat.le_refl _) _).cell (p := ⟨pl, 0, none⟩) q2).trans q3
  have HOW0 : Hid (OwnSet (W1.alloc (.map #[] 0)) (w.heap.size + 1) 0 []) := hsz ▸ ownSet_made W1
  have HBE0 : Hid (Below (w.heap.size + 1) W1 (W1.alloc (.map #[] 0))) := (Below.refl _ _).alloc (by omega) _
  go_enter Try.func12, Try.ntmps12
  go_wp2_with fail
  clear hT2 hq3
  go_loopw [7, 14] (fun _ i wr => ∃ k : Nat, k ≤ rs.length ∧ i = .int .i64 k ∧ OwnSet wr (w.heap.size + 1) (k * 1048576) (allowed (rs.take k) pk) ∧ Below (w.heap.size + 1) W1 wr) (fun _ i _ => rs.length - (intOf i).toNat)
  case atStart => exact ⟨0, Nat.zero_le _, rfl, by simpa [allowed] using HOW0.out, HBE0.out⟩
  case round =>
    obtain ⟨k, hk, rfl, hown, hbel⟩ := hrel
    by_cases hlt : k < rs.length
    · have hrg : wr.rangeAt g (k * 30) (ms.getD k CR.none).cells := fun j v hv => (hbel.cell (p := ⟨g, k * 30 + j, none⟩) (by show g < w.heap.size + 1; omega)).trans (HQ6.out k hlt j v hv)
      have hbelw : Below W1.heap.size W1 wr := hbel.mono (by omega)
      have hc1 := HQ7.out k hlt
      have hne : (ms.getD k CR.none).a ≠ some (w.heap.size + 1) := fun e => by
        rcases hc1.2.1 with ⟨h, _⟩ | ⟨b, h, ho⟩
        · rw [h] at e; cases e
        · have := ho.lt
          rw [h] at e
          have := Option.some.inj e
          omega
      have hc2 := hc1.below hbelw
      have hsk := HSM.out _ (getD_mem hlt)
      have hsn := allowed_snoc rs pk k hlt
      have hnm := hc2.1
      obtain ⟨c, hc⟩ : ∃ c, c = ms.getD k CR.none := ⟨_, rfl⟩
      rw [← hc] at hrg hc2 hne hnm
      generalize rs.getD k RIn.none = r at hc1 hc2 hsk hsn hnm
      rw [← hnm] at hsn
      have hpbw : pb < wr.heap.size := Nat.lt_of_lt_of_le (by omega) hbel.size
      have hpkw : wr.cell? ⟨pb, 0, none⟩ = some (.string pk) := (hbelw.cell (p := ⟨pb, 0, none⟩) (by show pb < W1.heap.size; omega)).trans HPK.out
      have hba : Below wr.heap.size wr (wr.alloc (.cells (cells56 c.nm c.a c.d) 56)) := (Below.refl _ _).alloc (Nat.le_refl _) _
      have HPI := hd (picks c.nm pk c.a c.d pb (wr.alloc (.cells (cells56 c.nm c.a c.d) 56)) (Nat.lt_of_lt_of_le hpbw hba.size) ((hba.cell (p := ⟨pb, 0, none⟩) hpbw).trans hpkw))
      have HNX : Hid (∀ w3, (wr.alloc (.cells (cells56 c.nm c.a c.d) 56)).grownBy w3 none → w3.cell? ⟨wr.heap.size, 2, none⟩ = some (.map c.a) ∧ Below (w.heap.size + 1) W1 w3 ∧ OwnSet w3 (w.heap.size + 1) (k * 1048576) (allowed (rs.take k) pk) ∧ Calls Try.prog 17 #[.map (some (w.heap.size + 1)), .map c.a] w3 fun e w' => e = .returned (.tuple #[]) ∧ OwnSet w' (w.heap.size + 1) (k * 1048576 + r.an) (keysOf r.al ++ allowed (rs.take k) pk) ∧ w3.grownBy w' (some (w.heap.size + 1))) := fun w3 hg3 => by
        have hb3 := grown_below hg3
        have hb4 : Below wr.heap.size wr w3 := hba.trans (hb3.mono hba.size)
        have hlo := hown.lt
        have ho3 := hown.of_block (hb4.block _ hlo)
        refine ⟨(hb3.cell (p := ⟨wr.heap.size, 2, none⟩) (by simp)).trans (c56_allow _ _ _ _), hbel.trans (hb4.mono (Nat.le_of_lt hlo)), ho3, copy_set ho3 (hc2.2.1.below hb4) hne (by have := hsk.1; unfold maxLen; omega)⟩
      have HRG := hd hrg
      have HSN := hd hsn
      have HSK := hd hsk
      clear hrg hsn hsk hc1 hc2 hbel hbelw hown hpbw hpkw hba hne hnm hc
      by_cases hpick : c.nm.toList == pk.toList
      · simp only [hpick] at HPI HSN
        go_wp2_with (first
          | (refine wpList_load56 rfl _ rfl g (k * 30) rfl c HRG.out ?_)
          | (refine wpList_load56 rfl _ rfl wr.heap.size 0 rfl c (range_new wr c) ?_)
          | (refine wpList_store_new rfl 56 _ _ rfl zero56 (cells56 c.nm c.a c.d) rfl rfl size56 rfl (one56 _ _ _) ?_)
          | (go_at_call 13; refine HPI.out.mono ?_; rintro e w3 ⟨rfl, hg3⟩; obtain ⟨hcell3, hb3, ho3, hcopy⟩ := HNX.out w3 hg3; have HB3 := hd hb3; have HCP := hd hcopy; clear hg3 hb3 ho3 hcopy)
          | (go_at_call 17; refine HCP.out.mono ?_; rintro e w4 ⟨rfl, ho4, hg4⟩; have HO4 := hd ho4; have HG4 := hd hg4; clear ho4 hg4))
        have HEND := hd (show OwnSet w4 (w.heap.size + 1) ((k + 1) * 1048576) (allowed (rs.take (k + 1)) pk) ∧ Below (w.heap.size + 1) W1 w4 from
          ⟨(HO4.out.mono (by have := HSK.out.1; omega)).congr (fun l => by rw [HSN.out l, List.mem_append]; simp), HB3.out.grown HG4.out (Nat.le_trans (by omega) HB3.out.size) (fun j h => by have := Option.some.inj h; omega)⟩)
        go_roundw
        case rel => exact ⟨k + 1, by omega, by go_num, HEND.out.1, HEND.out.2⟩
        case measure => simp [intOf]; omega
      · have hpick2 : (c.nm.toList == pk.toList) = false := by simpa using hpick
        simp only [hpick2] at HPI HSN
        go_wp2_with (first
          | (refine wpList_load56 rfl _ rfl g (k * 30) rfl c HRG.out ?_)
          | (refine wpList_load56 rfl _ rfl wr.heap.size 0 rfl c (range_new wr c) ?_)
          | (refine wpList_store_new rfl 56 _ _ rfl zero56 (cells56 c.nm c.a c.d) rfl rfl size56 rfl (one56 _ _ _) ?_)
          | (go_at_call 13; refine HPI.out.mono ?_; rintro e w3 ⟨rfl, hg3⟩; obtain ⟨hcell3, hb3, ho3, hcopy⟩ := HNX.out w3 hg3; have HB3 := hd hb3; have HO3 := hd ho3; clear hg3 hb3 ho3 hcopy))
        have HEND := hd (show OwnSet w3 (w.heap.size + 1) ((k + 1) * 1048576) (allowed (rs.take (k + 1)) pk) ∧ Below (w.heap.size + 1) W1 w3 from
          ⟨(HO3.out.mono (by omega)).congr (fun l => by rw [HSN.out l]; simp), HB3.out⟩)
        go_roundw
        case rel => exact ⟨k + 1, by omega, by go_num, HEND.out.1, HEND.out.2⟩
        case measure => simp [intOf]; omega
    · have hkn : k = rs.length := by omega
      have hall : allowed (rs.take k) pk = allowed rs pk := by rw [List.take_of_length_le (by omega)]
      rw [hall] at hown
      have hbelw : Below W1.heap.size W1 wr := hbel.mono (by omega)
      have hdel := delete_set hown (denied rs) 19 #[.pointer (some ⟨w.heap.size, 0, none⟩)] (enters_of Try.func19 (by kernel_rfl) rfl) (fun W s x hgW hs => by
        have hbW : Below W1.heap.size W1 W := hbelw.grown hgW (Nat.le_trans (Nat.le_refl _) hbelw.size) (fun j h => by have := Option.some.inj h; omega)
        exact someDenies (HP.out.below hbW) hn w.heap.size (Nat.lt_of_lt_of_le (by omega) hbW.size) ((hbW.cell (p := ⟨w.heap.size, 0, none⟩) (by show w.heap.size < W1.heap.size; omega)).trans HT.out) s x hs)
      have HDEL := hd hdel
      have HBEL := hd hbel
      clear hdel hown hbel hbelw hall
      go_wp2_with (first
        | (go_at_call 18; refine HDEL.out.mono ?_; rintro e w5 ⟨rfl, ho5, hg5⟩; have HSO := hd (sorted_set ho5 (by omega)); have HG5 := hd hg5; clear ho5 hg5)
        | (go_at_call 23; refine (callsIn_wide.1 (Try.maps_Keys_23 (some (w.heap.size + 1)) w5)).mono ?_; rintro e w6 ⟨rfl, rfl⟩)
        | (go_at_call 22; refine HSO.out.mono ?_; rintro e w7 ⟨v, L, rfl, h1, h2, h3, h4, h5, h6⟩; have HL := hd (And.intro h1 (And.intro h2 (And.intro h3 (And.intro h4 (And.intro h5 h6))))); clear h1 h2 h3 h4 h5 h6))
      go_ret
      obtain ⟨h1, h2, h3, h4, h5, h6⟩ := HL.out
      have hs5 : w.heap.size ≤ w5.heap.size := Nat.le_trans (by omega) (Nat.le_trans HBEL.out.size HG5.out.size)
      refine ⟨v, L, rfl, h1, fun l => ?_, h3, by omega, owns_base h5 (by omega), ?_⟩
      · rw [h2 l, List.mem_filter]
        cases denied rs l <;> simp
      · have hb5 : Below w.heap.size w w5 := (HBL.out.trans (HBEL.out.mono (Nat.le_succ _))).grown HG5.out (Nat.le_trans (by omega) HBEL.out.size) (fun j h => by have := Option.some.inj h; omega)
        exact below_grown (hb5.trans ((grown_below h6).mono hs5))
end Go.Proofs.Qxb6618872a
