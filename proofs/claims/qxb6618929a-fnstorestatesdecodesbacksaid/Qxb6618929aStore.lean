/-
  StoreStates.
-/
import Derived.Test.Qxb6618929aWalk2
namespace Go.Proofs.Qxb6618929a
open Go Go.RowKit

/-- A state is built in block g. -/
def Built (w : World) (R : Nat → Prop) (g : Nat) (d : StateD) : Prop := ∃ vES vEB vT vB vTA vS, StateAt w R g d vES vEB vT vB vTA vS
/-- A slice of pointers to states, or nil. -/
def StatesAt (w : World) (R : Nat → Prop) (v : Value) (ds : List StateD) : Prop :=
  ∃ (ao : Option Addr) (cap : Nat), v = .slice ao ds.length cap ∧ (ds.length ≤ 0 ∨ (0 < ds.length ∧ ∃ b off, ao = some ⟨b, off, none⟩ ∧ R b ∧ Hid (∀ i, i < ds.length → ∃ d g, ds[i]? = some d ∧ w.cell? ⟨b, off + i, none⟩ = some (.pointer (some ⟨g, 0, none⟩)) ∧ Built w R g d)))
theorem Built.kept {w w' : World} {R : Nat → Prop} {g : Nat} {d : StateD} (h : Built w R g d) (hs : Same R w w') : Built w' R g d := by
  obtain ⟨a, b, c, e, f, i, h⟩ := h
  exact ⟨a, b, c, e, f, i, h.kept hs⟩
theorem Built.more {w : World} {R R' : Nat → Prop} {g : Nat} {d : StateD} (h : Built w R g d) (hr : ∀ k, R k → R' k) : Built w R' g d := by
  obtain ⟨a, b, c, e, f, i, h⟩ := h
  exact ⟨a, b, c, e, f, i, h.more hr⟩

/-- The seats of the last state. -/
def lastSeats : List SeatD → List StateD → List SeatD
  | bf, [] => bf
  | _, x :: xs => lastSeats (x.seats.getD []) xs
theorem putStates_snoc : ∀ (xs : List StateD) (bf : List SeatD) (d : StateD) (st : St), putStates (xs ++ [d]) bf st = putState d (lastSeats bf xs) (putStates xs bf st)
  | [], _, _, _ => rfl
  | x :: xs, bf, d, st => putStates_snoc xs (x.seats.getD []) d (putState x bf st)
theorem lastSeats_snoc : ∀ (xs : List StateD) (bf : List SeatD) (d : StateD), lastSeats bf (xs ++ [d]) = d.seats.getD []
  | [], _, _ => rfl
  | x :: xs, _, d => lastSeats_snoc xs (x.seats.getD []) d
theorem lastSeats_len : ∀ (xs : List StateD) (bf : List SeatD), bf.length ≤ 10923 → (∀ d ∈ xs, StateOk d) → (lastSeats bf xs).length ≤ 10923
  | [], _, h, _ => h
  | x :: xs, _, _, ok => lastSeats_len xs (x.seats.getD []) (ok x (by simp)).seats.many (fun d hd => ok d (by simp [hd]))

theorem lenStates : ∀ (xs : List StateD) (bf : List SeatD) (st : St), (∀ d ∈ xs, StateOk d) → st.2.length + xs.length * 11000 ≤ 1073741824 →
    (putStates xs bf st).1.length ≤ st.1.length + xs.length * 22950000000 ∧ (putStates xs bf st).2.length ≤ st.2.length + xs.length * 11000
  | [], _, _, _, _ => by simp [putStates]
  | x :: xs, bf, st, ok, hn => by
    simp only [List.length_cons] at hn
    have h1 := up20 x bf st (ok x (by simp)) (by omega)
    rw [pst_all] at h1
    unfold Upto at h1
    have h2 := lenStates xs (x.seats.getD []) (putState x bf st) (fun d hd => ok d (by simp [hd])) (by omega)
    simp only [putStates, List.length_cons]
    omega

theorem box_new {w : World} {R : Nat → Prop} {bv : Value} {b : List UInt8} (hb : w.ownsRow 0 5 1 bv b.length (Lib.byteCells b)) (hbase : ∀ k, R k → k < w.heap.size) (hbat : ∀ k, bv.ownBlock = some k → ¬ R k) :
    Sto (w.alloc (.cells #[bv, .slice none 0 0] 72)) w.heap.size R (b, []) bv (.slice none 0 0) :=
  ⟨heap_alloc_new w _, own_kept hb (fun k hk => Below.heap_alloc w _ k (own_lt hb k hk)), hbat, World.ownsRow_nil _ 0 9 1, fun k hk => by simp [Value.ownBlock] at hk, fun h => by have := hbase _ h; omega, fun k hk => by have := hbase k hk; simp; omega⟩

set_option maxHeartbeats 4000000 in
set_option maxRecDepth 100000 in
theorem storeStates (R : Nat → Prop) (bv v : Value) (b : List UInt8) (ds : List StateD) (w : World) (hb : w.ownsRow 0 5 1 bv b.length (Lib.byteCells b)) (hbl : b.length ≤ 1048577) (hbase : ∀ k, R k → k < w.heap.size) (hbat : ∀ k, bv.ownBlock = some k → ¬ R k)
    (hv : StatesAt w R v ds) (hok : ∀ d ∈ ds, StateOk d) (hlen : ds.length ≤ 4097) :
    Calls Try.prog 16 #[bv, v] w fun e w' => ∃ v', e = .returned v' ∧ w'.ownsRow 0 5 1 v' (b ++ stored ds).length (Lib.byteCells (b ++ stored ds)) ∧ (∀ k, v'.ownBlock = some k → ¬ R k) ∧ Fr R w w' := by
  obtain ⟨ao, cap, rfl, hv⟩ := hv
  have HB := hd (box_new hb hbase hbat)
  have HF0 := hd ((Fr.refl R w).alloc hbase (.cells #[bv, .slice none 0 0] 72))
  have HOK := hd hok
  obtain ⟨ab, cb, rfl⟩ := own_slice hb
  clear hb hbase hbat hok
  have HE0 : Hid (BeforeAt (w.alloc (.cells #[.slice ab b.length cb, .slice none 0 0] 72)) R (.slice none 0 0) []) := ⟨none, 0, rfl, .inl (Nat.le_refl _)⟩
  have HST : Hid (b ++ stored ds = (putStates ds [] (b, [])).1) := (stored_after b ds).symm
  rw [HST.out]
  rcases hv with h0 | ⟨h0, bb, off, rfl, hR, HC⟩
  all_goals
    go_enter Try.func16, Try.ntmps16
    go_wp2
    go_loopw [6, 8, 13] (fun vb _ i wr => ∃ (k : Nat), k ≤ ds.length ∧ i = .int .i64 k ∧ (∃ bv sv, Sto wr w.heap.size R (putStates (ds.take k) [] (b, [])) bv sv) ∧ Fr R w wr ∧ BeforeAt wr R vb (lastSeats [] (ds.take k))) (fun _ _ i _ => ds.length - (intOf i).toNat)
    case atStart => exact ⟨0, Nat.zero_le _, rfl, ⟨_, _, HB.out⟩, HF0.out, HE0.out⟩
    case round =>
      obtain ⟨k, hk, rfl, ⟨bv1, sv1, hS⟩, hF, hBf⟩ := hrel
      by_cases hlt : k < ds.length
      · try (exfalso; omega)
        all_goals
          obtain ⟨d, g, hdk, hcell, hbu⟩ := HC.out k hlt
          have hok' : ∀ d ∈ ds.take k, StateOk d := fun d hd => HOK.out d (List.mem_of_mem_take hd)
          have htk : (ds.take k).length = k := by simp; omega
          have hln := lenStates (ds.take k) [] (b, []) hok' (by simp only [List.length_nil]; omega)
          have hll := lastSeats_len (ds.take k) [] (by simp) hok'
          rw [htk] at hln
          simp only [List.length_nil] at hln
          have e : ds.take (k + 1) = ds.take k ++ [d] := by rw [List.take_add_one, hdk]; rfl
          have HP : Hid (putStates (ds.take (k + 1)) [] (b, []) = putState d (lastSeats [] (ds.take k)) (putStates (ds.take k) [] (b, []))) := by show _ = _; rw [e, putStates_snoc]
          have HL : Hid (lastSeats [] (ds.take (k + 1)) = d.seats.getD []) := by show _ = _; rw [e, lastSeats_snoc]
          obtain ⟨vES, vEB, vT, vB, vTA, vS, hst⟩ := hbu
          have hst1 := hst.kept hF.same
          have hc19 := hst1.c19
          have hck := (hF.cell (p := ⟨bb, off + k, none⟩) hR).trans hcell
          have hBf2 := hBf
          obtain ⟨abf, cbf, hvb, _⟩ := hBf
          subst hvb
          have C := hd (walkState w.heap.size R _ bv1 sv1 g d vES vEB vT vB vTA vS _ _ _ hS (HOK.out d (List.mem_of_getElem? hdk)) (by omega) (by omega) hst1 hBf2 (by omega))
          have HST1 := hd hst1
          have HF := hd hF
          have hg := hst1.inR
          clear hS hF hBf2 hst hst1 hcell hdk hok' hln hll e htk
          go_wp2_with (go_at_call 26; refine C.out.mono ?_; rintro e w2 ⟨rfl, hS2, hF2⟩; have hc2 := (hF2.cell (p := ⟨g, 19, none⟩) hg).trans hc19; have HR2 := hd (And.intro hS2 hF2); clear hS2 hF2)
          go_roundw
          case rel => exact ⟨k + 1, by omega, by go_num, HP.out ▸ HR2.out.1, HF.out.trans HR2.out.2, HL.out ▸ (HST1.out.seats.kept HR2.out.2.same).before⟩
          case measure => simp [intOf]; omega
      · have HTK : Hid (ds.take k = ds) := List.take_of_length_le (by omega)
        rw [HTK.out] at hS
        have hcb : wr.cell? ⟨w.heap.size, 0, none⟩ = some bv1 := by simpa using cell_of_row wr w.heap.size 0 _ 72 (0, 0) hS.box
        have HS := hd hS
        have HF := hd hF
        obtain ⟨a1, c1, hv1⟩ := own_slice hS.bytes
        subst hv1
        clear hS hF hBf
        go_wp2
        go_ret
        exact ⟨_, rfl, HS.out.bytes, HS.out.bat, HF.out⟩
end Go.Proofs.Qxb6618929a
