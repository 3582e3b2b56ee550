/-
  walkState: the walk.
-/
import Derived.Test.Qxb6618929aWalk
namespace Go.Proofs.Qxb6618929a
open Go Go.RowKit

set_option maxHeartbeats 40000000 in
set_option maxRecDepth 100000 in
theorem walkState (s : Nat) (R : Nat → Prop) (st : St) (bv sv : Value) (g : Nat) (d : StateD) (vES vEB vT vB vTA vS vb : Value) (bf : List SeatD) (w : World) (h : Sto w s R st bv sv) (ok : StateOk d) (hlim : st.1.length + 22970000000 ≤ 140737488355328) (hn : st.2.length + 11000 ≤ 1073741824)
    (hd0 : StateAt w R g d vES vEB vT vB vTA vS) (hbf : BeforeAt w R vb bf) (hbl : bf.length ≤ 1048577) :
    Calls Try.prog 26 #[.iface 75 (.pointer (some ⟨s, 0, none⟩)), .pointer (some ⟨g, 0, none⟩), vb] w fun e w' => Step s R w (putState d bf st) e w' := by
  have na_string := ahead_string
  have me_string := meth_string
  have na_int64 := ahead_int64
  have me_int64 := meth_int64
  have na_optInt := ahead_optInt
  have me_optInt := meth_optInt
  have na_int := ahead_int
  have me_int := meth_int
  have na_cards := ahead_cards
  have me_cards := meth_cards
  have na_seats := ahead_seats
  have me_seats := meth_seats
  have na_flag := ahead_flag
  have me_flag := meth_flag
  simp at na_string me_string na_int64 me_int64 na_optInt me_optInt na_int me_int na_cards me_cards na_seats me_seats na_flag me_flag
  have HOK := hd ok
  have HD := hd hd0
  have HB := hd hbf
  have hg := hd0.inR
  rw [← pst_all]
  have HF0 := hd (Fr.refl R w)
  have C0 := hd ((s_string s R (pst0 d bf st) _ _ ⟨g, 0, none⟩ d.type w.drew h.drew (by have hx := HOK.out.type; have hu := (up0 d bf st); unfold Upto at hu; omega) (by have hu := (up0 d bf st); unfold Upto at hu; omega) ((HF0.out.cell (p := ⟨g, 0, none⟩) hg).trans HD.out.c0)).mono fun e w' h => h.ofDrew)
  clear h hd0 hbf ok
  go_enter Try.func26, Try.ntmps26
  go_wp2_with fail
  go_region_with (go_at_call 64; refine C0.out.mono ?_; rintro e w1 ⟨rfl, ⟨bv1, sv1, hS1⟩, hF1⟩; have HF1 := hd (HF0.out.trans hF1); have C1 := hd ((s_int 61 (.inr rfl) s R (pst1 d bf st) _ _ ⟨g, 1, none⟩ d.seq HOK.out.seq.1 HOK.out.seq.2 w1.drew hS1.drew (by have hu := (up1 d bf st HOK.out hn); unfold Upto at hu; omega) ((HF1.out.cell (p := ⟨g, 1, none⟩) hg).trans HD.out.c1)).mono fun e w' h => h.ofDrew); clear hS1 hF1 C0)
  go_wp2_with fail
  go_region_with (go_at_call 61; refine C1.out.mono ?_; rintro e w2 ⟨rfl, ⟨bv2, sv2, hS2⟩, hF2⟩; have HF2 := hd (HF1.out.trans hF2); have C2 := hd ((s_string s R (pst2 d bf st) _ _ ⟨g, 2, none⟩ d.kind w2.drew hS2.drew (by have hx := HOK.out.kind; have hu := (up2 d bf st HOK.out hn); unfold Upto at hu; omega) (by have hu := (up2 d bf st HOK.out hn); unfold Upto at hu; omega) ((HF2.out.cell (p := ⟨g, 2, none⟩) hg).trans HD.out.c2)).mono fun e w' h => h.ofDrew); clear hS2 hF2 C1)
  go_wp2_with fail
  go_region_with (go_at_call 64; refine C2.out.mono ?_; rintro e w3 ⟨rfl, ⟨bv3, sv3, hS3⟩, hF3⟩; have HF3 := hd (HF2.out.trans hF3); have C3 := hd ((s_optInt s R (pst3 d bf st) _ _ ⟨g, 3, none⟩ vES d.eseat HOK.out.eseat w3.drew hS3.drew (by have hu := (up3 d bf st HOK.out hn); unfold Upto at hu; omega) hg ((HF3.out.cell (p := ⟨g, 3, none⟩) hg).trans HD.out.c3) (HD.out.eseat.kept HF3.out.same)).mono fun e w' h => h.ofDrew); clear hS3 hF3 C2)
  go_wp2_with fail
  go_region_with (go_at_call 62; refine C3.out.mono ?_; rintro e w4 ⟨rfl, ⟨bv4, sv4, hS4⟩, hF4⟩; have HF4 := hd (HF3.out.trans hF4); have C4 := hd ((s_string s R (pst4 d bf st) _ _ ⟨g, 4, none⟩ d.action w4.drew hS4.drew (by have hx := HOK.out.action; have hu := (up4 d bf st HOK.out hn); unfold Upto at hu; omega) (by have hu := (up4 d bf st HOK.out hn); unfold Upto at hu; omega) ((HF4.out.cell (p := ⟨g, 4, none⟩) hg).trans HD.out.c4)).mono fun e w' h => h.ofDrew); clear hS4 hF4 C3)
  go_wp2_with fail
  go_region_with (go_at_call 64; refine C4.out.mono ?_; rintro e w5 ⟨rfl, ⟨bv5, sv5, hS5⟩, hF5⟩; have HF5 := hd (HF4.out.trans hF5); have C5 := hd ((s_int 60 (.inl rfl) s R (pst5 d bf st) _ _ ⟨g, 5, none⟩ d.amount HOK.out.amount.1 HOK.out.amount.2 w5.drew hS5.drew (by have hu := (up5 d bf st HOK.out hn); unfold Upto at hu; omega) ((HF5.out.cell (p := ⟨g, 5, none⟩) hg).trans HD.out.c5)).mono fun e w' h => h.ofDrew); clear hS5 hF5 C4)
  go_wp2_with fail
  go_region_with (go_at_call 60; refine C5.out.mono ?_; rintro e w6 ⟨rfl, ⟨bv6, sv6, hS6⟩, hF6⟩; have HF6 := hd (HF5.out.trans hF6); have C6 := hd ((s_string s R (pst6 d bf st) _ _ ⟨g, 6, none⟩ d.street w6.drew hS6.drew (by have hx := HOK.out.street; have hu := (up6 d bf st HOK.out hn); unfold Upto at hu; omega) (by have hu := (up6 d bf st HOK.out hn); unfold Upto at hu; omega) ((HF6.out.cell (p := ⟨g, 6, none⟩) hg).trans HD.out.c6)).mono fun e w' h => h.ofDrew); clear hS6 hF6 C5)
  go_wp2_with fail
  go_region_with (go_at_call 64; refine C6.out.mono ?_; rintro e w7 ⟨rfl, ⟨bv7, sv7, hS7⟩, hF7⟩; have HF7 := hd (HF6.out.trans hF7); have C7 := hd ((s_cards s R (pst7 d bf st) _ _ ⟨g, 7, none⟩ vEB d.eboard w7.drew hS7.drew HOK.out.eboard (by have hu := (up7 d bf st HOK.out hn); unfold Upto at hu; omega) hg ((HF7.out.cell (p := ⟨g, 7, none⟩) hg).trans HD.out.c7) (HD.out.eboard.kept HF7.out.same)).mono fun e w' h => h.ofDrew); clear hS7 hF7 C6)
  go_wp2_with fail
  go_region_with (go_at_call 58; refine C7.out.mono ?_; rintro e w8 ⟨rfl, ⟨bv8, sv8, hS8⟩, hF8⟩; have HF8 := hd (HF7.out.trans hF8); have C8 := hd ((s_int 60 (.inl rfl) s R (pst8 d bf st) _ _ ⟨g, 8, none⟩ d.place HOK.out.place.1 HOK.out.place.2 w8.drew hS8.drew (by have hu := (up8 d bf st HOK.out hn); unfold Upto at hu; omega) ((HF8.out.cell (p := ⟨g, 8, none⟩) hg).trans HD.out.c8)).mono fun e w' h => h.ofDrew); clear hS8 hF8 C7)
  go_wp2_with fail
  go_region_with (go_at_call 60; refine C8.out.mono ?_; rintro e w9 ⟨rfl, ⟨bv9, sv9, hS9⟩, hF9⟩; have HF9 := hd (HF8.out.trans hF9); have C9 := hd ((s_int 60 (.inl rfl) s R (pst9 d bf st) _ _ ⟨g, 10, none⟩ d.hand HOK.out.hand.1 HOK.out.hand.2 w9.drew hS9.drew (by have hu := (up9 d bf st HOK.out hn); unfold Upto at hu; omega) ((HF9.out.cell (p := ⟨g, 10, none⟩) hg).trans HD.out.c10)).mono fun e w' h => h.ofDrew); clear hS9 hF9 C8)
  go_wp2_with fail
  go_region_with (go_at_call 60; refine C9.out.mono ?_; rintro e w10 ⟨rfl, ⟨bv10, sv10, hS10⟩, hF10⟩; have HF10 := hd (HF9.out.trans hF10); have C10 := hd ((s_int 60 (.inl rfl) s R (pst10 d bf st) _ _ ⟨g, 11, none⟩ d.sb HOK.out.sb.1 HOK.out.sb.2 w10.drew hS10.drew (by have hu := (up10 d bf st HOK.out hn); unfold Upto at hu; omega) ((HF10.out.cell (p := ⟨g, 11, none⟩) hg).trans HD.out.c11)).mono fun e w' h => h.ofDrew); clear hS10 hF10 C9)
  go_wp2_with fail
  go_region_with (go_at_call 60; refine C10.out.mono ?_; rintro e w11 ⟨rfl, ⟨bv11, sv11, hS11⟩, hF11⟩; have HF11 := hd (HF10.out.trans hF11); have C11 := hd ((s_int 60 (.inl rfl) s R (pst11 d bf st) _ _ ⟨g, 12, none⟩ d.bb HOK.out.bb.1 HOK.out.bb.2 w11.drew hS11.drew (by have hu := (up11 d bf st HOK.out hn); unfold Upto at hu; omega) ((HF11.out.cell (p := ⟨g, 12, none⟩) hg).trans HD.out.c12)).mono fun e w' h => h.ofDrew); clear hS11 hF11 C10)
  go_wp2_with fail
  go_region_with (go_at_call 60; refine C11.out.mono ?_; rintro e w12 ⟨rfl, ⟨bv12, sv12, hS12⟩, hF12⟩; have HF12 := hd (HF11.out.trans hF12); have C12 := hd ((s_int 60 (.inl rfl) s R (pst12 d bf st) _ _ ⟨g, 13, none⟩ d.ante HOK.out.ante.1 HOK.out.ante.2 w12.drew hS12.drew (by have hu := (up12 d bf st HOK.out hn); unfold Upto at hu; omega) ((HF12.out.cell (p := ⟨g, 13, none⟩) hg).trans HD.out.c13)).mono fun e w' h => h.ofDrew); clear hS12 hF12 C11)
  go_wp2_with fail
  go_region_with (go_at_call 60; refine C12.out.mono ?_; rintro e w13 ⟨rfl, ⟨bv13, sv13, hS13⟩, hF13⟩; have HF13 := hd (HF12.out.trans hF13); have C13 := hd ((s_string s R (pst13 d bf st) _ _ ⟨g, 14, none⟩ d.tstreet w13.drew hS13.drew (by have hx := HOK.out.tstreet; have hu := (up13 d bf st HOK.out hn); unfold Upto at hu; omega) (by have hu := (up13 d bf st HOK.out hn); unfold Upto at hu; omega) ((HF13.out.cell (p := ⟨g, 14, none⟩) hg).trans HD.out.c14)).mono fun e w' h => h.ofDrew); clear hS13 hF13 C12)
  go_wp2_with fail
  go_region_with (go_at_call 64; refine C13.out.mono ?_; rintro e w14 ⟨rfl, ⟨bv14, sv14, hS14⟩, hF14⟩; have HF14 := hd (HF13.out.trans hF14); have C14 := hd ((s_int 60 (.inl rfl) s R (pst14 d bf st) _ _ ⟨g, 15, none⟩ d.button HOK.out.button.1 HOK.out.button.2 w14.drew hS14.drew (by have hu := (up14 d bf st HOK.out hn); unfold Upto at hu; omega) ((HF14.out.cell (p := ⟨g, 15, none⟩) hg).trans HD.out.c15)).mono fun e w' h => h.ofDrew); clear hS14 hF14 C13)
  go_wp2_with fail
  go_region_with (go_at_call 60; refine C14.out.mono ?_; rintro e w15 ⟨rfl, ⟨bv15, sv15, hS15⟩, hF15⟩; have HF15 := hd (HF14.out.trans hF15); have C15 := hd ((s_cards s R (pst15 d bf st) _ _ ⟨g, 16, none⟩ vB d.board w15.drew hS15.drew HOK.out.board (by have hu := (up15 d bf st HOK.out hn); unfold Upto at hu; omega) hg ((HF15.out.cell (p := ⟨g, 16, none⟩) hg).trans HD.out.c16) (HD.out.board.kept HF15.out.same)).mono fun e w' h => h.ofDrew); clear hS15 hF15 C14)
  go_wp2_with fail
  go_region_with (go_at_call 58; refine C15.out.mono ?_; rintro e w16 ⟨rfl, ⟨bv16, sv16, hS16⟩, hF16⟩; have HF16 := hd (HF15.out.trans hF16); have C16 := hd ((s_int 60 (.inl rfl) s R (pst16 d bf st) _ _ ⟨g, 17, none⟩ d.pot HOK.out.pot.1 HOK.out.pot.2 w16.drew hS16.drew (by have hu := (up16 d bf st HOK.out hn); unfold Upto at hu; omega) ((HF16.out.cell (p := ⟨g, 17, none⟩) hg).trans HD.out.c17)).mono fun e w' h => h.ofDrew); clear hS16 hF16 C15)
  go_wp2_with fail
  go_region_with (go_at_call 60; refine C16.out.mono ?_; rintro e w17 ⟨rfl, ⟨bv17, sv17, hS17⟩, hF17⟩; have HF17 := hd (HF16.out.trans hF17); have C17 := hd ((s_optInt s R (pst17 d bf st) _ _ ⟨g, 18, none⟩ vTA d.toAct HOK.out.toAct w17.drew hS17.drew (by have hu := (up17 d bf st HOK.out hn); unfold Upto at hu; omega) hg ((HF17.out.cell (p := ⟨g, 18, none⟩) hg).trans HD.out.c18) (HD.out.toAct.kept HF17.out.same)).mono fun e w' h => h.ofDrew); clear hS17 hF17 C16)
  go_wp2_with fail
  go_region_with (go_at_call 62; refine C17.out.mono ?_; rintro e w18 ⟨rfl, ⟨bv18, sv18, hS18⟩, hF18⟩; have HF18 := hd (HF17.out.trans hF18); have C18 := hd ((s_seats s R (pst18 d bf st) _ _ ⟨g, 19, none⟩ vS d.seats vb bf w18.drew hS18.drew HOK.out.seats (by have hu := (up18 d bf st HOK.out hn); unfold Upto at hu; omega) (by have hu := (up18 d bf st HOK.out hn); unfold Upto at hu; omega) hg ((HF18.out.cell (p := ⟨g, 19, none⟩) hg).trans HD.out.c19) (HD.out.seats.kept HF18.out.same) (HB.out.kept HF18.out.same) hbl).mono fun e w' h => h.ofDrew); clear hS18 hF18 C17)
  go_wp2_with fail
  go_region_with (go_at_call 63; refine C18.out.mono ?_; rintro e w19 ⟨rfl, ⟨bv19, sv19, hS19⟩, hF19⟩; have HF19 := hd (HF18.out.trans hF19); have C19 := hd ((s_flag s R (pst19 d bf st) _ _ ⟨g, 20, none⟩ d.resync w19.drew hS19.drew (by have hu := (up19 d bf st HOK.out hn); unfold Upto at hu; omega) ((HF19.out.cell (p := ⟨g, 20, none⟩) hg).trans HD.out.c20)).mono fun e w' h => h.ofDrew); clear hS19 hF19 C18)
  go_wp2_with fail
  go_region_with (go_at_call 59; refine C19.out.mono ?_; rintro e w20 ⟨rfl, ⟨bv20, sv20, hS20⟩, hF20⟩; have HF20 := hd (HF19.out.trans hF20); have HS20 := hd hS20; clear hS20 hF20 C19)
  go_wp2
  go_end0
  exact ⟨rfl, ⟨_, _, HS20.out⟩, HF20.out⟩
end Go.Proofs.Qxb6618929a
