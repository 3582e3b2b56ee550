/-
  storer.seat: a seat that is stored whole.
-/
import Derived.Test.Qxb6618929aSeat
import Derived.Test.Qxb6618929aHold
namespace Go.Proofs.Qxb6618929a
open Go Go.RowKit

/-- A seat, stored whole. -/
def putWhole (d : SeatD) (st : St) : St := putCards d.cards (putV d.bet (putV d.stack (putStr d.name (putV d.seat (putB (2 ||| bitB d.folded 4 ||| bitB d.allIn 8 ||| bitB d.conn 16) st)))))

theorem Fr.ofSame {R : Nat → Prop} {w w' : World} (h : Fr R w w') : Same R w w' := h.block

theorem wpOp_want {P : Program} {ops : Array Oper} {Q : Exit → Act → World → Prop} {i : Nat} {o : Oper} {a : Act} {w : World} {K : Act → World → Prop} (hi : ops[i]? = some o) (hw : Region.wanted o (yielded ops a.tmps) = true) (h : o.wp P a w K Q) : wpOp P ops Q i K a w := by
  unfold wpOp
  simp only [hi, hw, if_true]
  exact .inl h

set_option linter.unusedSimpArgs false in
set_option maxHeartbeats 8000000 in
set_option maxRecDepth 100000 in
theorem s_seat_whole (s : Nat) (R : Nat → Prop) (st : St) (bv sv : Value) (b o : Nat) (d : SeatD) (cv : Value) (vb : Value) (ds : List SeatD) (i : Nat) (w : World) (h : Sto w s R st bv sv) (hlim : st.1.length + 2200000 ≤ 140737488355328) (hn : st.2.length + 1 ≤ 1073741824)
    (hd1 : SeatAt w R b o d cv) (hok : SeatOk d) (hbf : BeforeAt w R vb ds) (hl : ds.length ≤ 1048577) (hi : i ≤ 1048577) (hdiff : ∀ d2, ds[i]? = some d2 → sameSeatD d d2 = false) :
    Calls Try.prog 68 #[.pointer (some ⟨s, 0, none⟩), .pointer (some ⟨b, o, none⟩), vb, .int .i64 i] w fun e w' => Step s R w (putWhole d st) e w' := by
  obtain ⟨i0, hi0, hz0, hz1, hz2⟩ := info_parts Try.info5
  obtain ⟨zb, HZ⟩ : ∃ zb : UInt8, Hid (2 ||| bitB d.folded 4 ||| bitB d.allIn 8 ||| bitB d.conn 16 = zb) := ⟨_, rfl⟩
  have HW : Hid (putWhole d st = putCards d.cards (putV d.bet (putV d.stack (putStr d.name (putV d.seat (putB zb st)))))) := by show _ = _; rw [← HZ.out]; rfl
  rw [HW.out]
  have key : (i < ds.length ∧ ∃ b2 off2 cap, vb = .slice (some ⟨b2, off2, none⟩) ds.length cap ∧ Hid (∀ W, Same R w W → Calls Try.prog 72 #[.pointer (some ⟨b, o, none⟩), .pointer (some ⟨b2, off2 + i * 8, none⟩)] W fun e w' => e = .returned (.bool false) ∧ ∃ m, w' = W.drewN m)) ∨ (¬ i < ds.length ∧ ∃ ao cap, vb = .slice ao ds.length cap) := by
    by_cases hlt : i < ds.length
    · left
      obtain ⟨ao, cap, rfl, h0 | ⟨_, b2, off2, rfl, HB⟩⟩ := hbf
      · omega
      obtain ⟨d2, cv2, he, hd2⟩ := HB.out i hlt
      refine ⟨hlt, b2, off2, cap, rfl, fun W hW => ?_⟩
      have := sameSeat72 R b o b2 (off2 + i * 8) d d2 cv cv2 W (hd1.kept hW) (hd2.kept hW) hok.cards
      rwa [hdiff d2 he] at this
    · obtain ⟨ao, cap, rfl, _⟩ := hbf
      exact .inr ⟨hlt, ao, cap, rfl⟩
  clear hbf hdiff
  have hcb : w.cell? ⟨s, 0, none⟩ = some bv := by simpa using cell_of_row w s 0 #[bv, sv] 72 (0, 0) h.box
  have HS := hd h
  have HD := hd hd1
  have HK := hd hok
  obtain ⟨ab, cb, rfl⟩ := own_slice h.bytes
  have c4 := hd1.c4
  have c5 := hd1.c5
  have c7 := hd1.c7
  have hb := hd1.inR
  have o1 := or1 d.folded
  have o2 := or2 d.folded d.allIn
  have o3 := or3 d.folded d.allIn d.conn
  rw [HZ.out] at o3
  have CB1 := hd (fun W => bit67k d.folded 4 4 rfl W)
  have CB2 := hd (fun W => bit67k d.allIn 8 8 rfl W)
  have CB3 := hd (fun W => bit67k d.conn 16 16 rfl W)
  clear h hd1 hok
  generalize bitB d.folded 4 = z1 at o1 o2 o3 CB1
  generalize bitB d.allIn 8 = z2 at o2 o3 CB2
  generalize bitB d.conn 16 = z3 at o3 CB3
  generalize (2 ||| z1 : UInt8) = y1 at o1 o2 o3
  generalize (y1 ||| z2 : UInt8) = y2 at o2 o3
  have b0 := hd (lenB zb st)
  have b1 := hd (lenV d.seat (putB zb st) HK.out.seat)
  have b2 := hd (lenStr d.name (putV d.seat (putB zb st)) (by have := b0.out; have := b1.out; omega) (by have := HK.out.name; omega))
  have b3 := hd (lenV d.stack (putStr d.name (putV d.seat (putB zb st))) HK.out.stack)
  have b4 := hd (lenV d.bet (putV d.stack (putStr d.name (putV d.seat (putB zb st)))) HK.out.bet)
  have HN := hd HK.out.name
  rcases key with ⟨hlt, bb, off2, cap2, rfl, C72⟩ | ⟨hlt, ao, cap, rfl⟩
  · go_enter Try.func68, Try.ntmps68
    go_wp2_with (go_at_call 72; refine (C72.out w (fun _ _ => rfl)).mono ?_; rintro e w' ⟨rfl, m, rfl⟩)
    have HSW := hd (HS.out.drewN m)
    have HFW : Hid (Fr R w (w.drewN m)) := ⟨rfl, rfl, rfl, Nat.le_refl _, fun _ _ => rfl⟩
    generalize w.drewN m = W at HSW HFW ⊢
    have hcbW : W.cell? ⟨s, 0, none⟩ = some (.slice ab st.1.length cb) := by simpa using cell_of_row W s 0 _ 72 (0, 0) HSW.out.box
    have HKP : Hid (∀ w', Same R W w' → w'.cell? ⟨b, o + 4, none⟩ = some (.bool d.folded) ∧ w'.cell? ⟨b, o + 5, none⟩ = some (.bool d.allIn) ∧ w'.cell? ⟨b, o + 7, none⟩ = some (.bool d.conn)) := fun w' hw =>
      ⟨(hw.cell (p := ⟨b, o + 4, none⟩) hb).trans ((HFW.out.cell (p := ⟨b, o + 4, none⟩) hb).trans c4), (hw.cell (p := ⟨b, o + 5, none⟩) hb).trans ((HFW.out.cell (p := ⟨b, o + 5, none⟩) hb).trans c5), (hw.cell (p := ⟨b, o + 7, none⟩) hb).trans ((HFW.out.cell (p := ⟨b, o + 7, none⟩) hb).trans c7)⟩
    have HA : Hid (Same R W (W.alloc (.cells #[.int .u8 zb.toNat] 5))) := fun k hk => Below.heap_alloc W _ k (HSW.out.base k hk)
    have HOW := hd ((HSW.out.alloc (.cells #[.int .u8 zb.toNat] 5)).drew.bytes)
    have HS0 : Hid ((fun w' => w'.cell? ⟨s, 0, none⟩ = some (.slice ab st.1.length cb) ∧ w'.cell? ⟨b, o + 4, none⟩ = some (.bool d.folded) ∧ w'.cell? ⟨b, o + 5, none⟩ = some (.bool d.allIn) ∧ w'.cell? ⟨b, o + 7, none⟩ = some (.bool d.conn)) W.drew) := ⟨hcbW, HKP.out W.drew (fun _ _ => rfl)⟩
    refine wp_region_Z (fun w' => w'.cell? ⟨s, 0, none⟩ = some (.slice ab st.1.length cb) ∧ w'.cell? ⟨b, o + 4, none⟩ = some (.bool d.folded) ∧ w'.cell? ⟨b, o + 5, none⟩ = some (.bool d.allIn) ∧ w'.cell? ⟨b, o + 7, none⟩ = some (.bool d.conn)) 27 (by kernel_rfl) ?_
    show wpZ _ _ _ _ _ 28 (Array.replicate 28 false) _ _
    refine wpZ_take (i := 0) (v := .pointer (some ⟨s, 0, none⟩)) [] rfl (by kernel_rfl) (by kernel_rfl) (by kernel_rfl) (by kernel_rfl) (fun _ _ _ h => h) (.inl ⟨rfl, fun w' hS => ?_⟩) HS0.out ?_
    · obtain ⟨k0, k1, k2, k3⟩ := hS
      go_simp
    simp only [Act.put, List.setIfInBounds_toArray, List.set_cons_zero, List.set_cons_succ]
    refine wpZ_take (i := 1) (v := .pointer (some ⟨s, 0, none⟩)) [] rfl (by kernel_rfl) (by kernel_rfl) (by kernel_rfl) (by kernel_rfl) (fun _ _ _ h => h) (.inl ⟨rfl, fun w' hS => ?_⟩) HS0.out ?_
    · obtain ⟨k0, k1, k2, k3⟩ := hS
      go_simp
    simp only [Act.put, List.setIfInBounds_toArray, List.set_cons_zero, List.set_cons_succ]
    refine wpZ_take (i := 2) (v := .pointer (some ⟨s, 0, none⟩)) [] rfl (by kernel_rfl) (by kernel_rfl) (by kernel_rfl) (by kernel_rfl) (fun _ _ _ h => h) (.inl ⟨rfl, fun w' hS => ?_⟩) HS0.out ?_
    · obtain ⟨k0, k1, k2, k3⟩ := hS
      go_simp
    simp only [Act.put, List.setIfInBounds_toArray, List.set_cons_zero, List.set_cons_succ]
    refine wpZ_take (i := 3) (v := .pointer (some ⟨s, 0, none⟩)) [] rfl (by kernel_rfl) (by kernel_rfl) (by kernel_rfl) (by kernel_rfl) (fun _ _ _ h => h) (.inl ⟨rfl, fun w' hS => ?_⟩) HS0.out ?_
    · obtain ⟨k0, k1, k2, k3⟩ := hS
      go_simp
    simp only [Act.put, List.setIfInBounds_toArray, List.set_cons_zero, List.set_cons_succ]
    refine wpZ_take (i := 4) (v := .slice ab st.1.length cb) [] rfl (by kernel_rfl) (by kernel_rfl) (by kernel_rfl) (by kernel_rfl) (fun _ _ _ h => h) (.inl ⟨rfl, fun w' hS => ?_⟩) HS0.out ?_
    · obtain ⟨k0, k1, k2, k3⟩ := hS
      go_simp
    simp only [Act.put, List.setIfInBounds_toArray, List.set_cons_zero, List.set_cons_succ]
    refine wpZ_take (i := 5) (v := .pointer (some ⟨b, o, none⟩)) [] rfl (by kernel_rfl) (by kernel_rfl) (by kernel_rfl) (by kernel_rfl) (fun _ _ _ h => h) (.inl ⟨rfl, fun w' hS => ?_⟩) HS0.out ?_
    · obtain ⟨k0, k1, k2, k3⟩ := hS
      go_simp
    simp only [Act.put, List.setIfInBounds_toArray, List.set_cons_zero, List.set_cons_succ]
    refine wpZ_take (i := 6) (v := .pointer (some ⟨b, o, none⟩)) [] rfl (by kernel_rfl) (by kernel_rfl) (by kernel_rfl) (by kernel_rfl) (fun _ _ _ h => h) (.inl ⟨rfl, fun w' hS => ?_⟩) HS0.out ?_
    · obtain ⟨k0, k1, k2, k3⟩ := hS
      go_simp
    simp only [Act.put, List.setIfInBounds_toArray, List.set_cons_zero, List.set_cons_succ]
    refine wpZ_take (i := 7) (v := .pointer (some ⟨b, o + 4, none⟩)) [] rfl (by kernel_rfl) (by kernel_rfl) (by kernel_rfl) (by kernel_rfl) (fun _ _ _ h => h) (.inl ⟨rfl, fun w' hS => ?_⟩) HS0.out ?_
    · obtain ⟨k0, k1, k2, k3⟩ := hS
      go_simp
    simp only [Act.put, List.setIfInBounds_toArray, List.set_cons_zero, List.set_cons_succ]
    refine wpZ_take (i := 8) (v := .bool d.folded) [] rfl (by kernel_rfl) (by kernel_rfl) (by kernel_rfl) (by kernel_rfl) (fun _ _ _ h => h) (.inl ⟨rfl, fun w' hS => ?_⟩) HS0.out ?_
    · obtain ⟨k0, k1, k2, k3⟩ := hS
      go_simp
    simp only [Act.put, List.setIfInBounds_toArray, List.set_cons_zero, List.set_cons_succ]
    refine wpZ_take (i := 11) (v := .pointer (some ⟨b, o, none⟩)) [] rfl (by kernel_rfl) (by kernel_rfl) (by kernel_rfl) (by kernel_rfl) (fun _ _ _ h => h) (.inl ⟨rfl, fun w' hS => ?_⟩) HS0.out ?_
    · obtain ⟨k0, k1, k2, k3⟩ := hS
      go_simp
    simp only [Act.put, List.setIfInBounds_toArray, List.set_cons_zero, List.set_cons_succ]
    refine wpZ_take (i := 12) (v := .pointer (some ⟨b, o, none⟩)) [] rfl (by kernel_rfl) (by kernel_rfl) (by kernel_rfl) (by kernel_rfl) (fun _ _ _ h => h) (.inl ⟨rfl, fun w' hS => ?_⟩) HS0.out ?_
    · obtain ⟨k0, k1, k2, k3⟩ := hS
      go_simp
    simp only [Act.put, List.setIfInBounds_toArray, List.set_cons_zero, List.set_cons_succ]
    refine wpZ_take (i := 13) (v := .pointer (some ⟨b, o + 5, none⟩)) [] rfl (by kernel_rfl) (by kernel_rfl) (by kernel_rfl) (by kernel_rfl) (fun _ _ _ h => h) (.inl ⟨rfl, fun w' hS => ?_⟩) HS0.out ?_
    · obtain ⟨k0, k1, k2, k3⟩ := hS
      go_simp
    simp only [Act.put, List.setIfInBounds_toArray, List.set_cons_zero, List.set_cons_succ]
    refine wpZ_take (i := 14) (v := .bool d.allIn) [] rfl (by kernel_rfl) (by kernel_rfl) (by kernel_rfl) (by kernel_rfl) (fun _ _ _ h => h) (.inl ⟨rfl, fun w' hS => ?_⟩) HS0.out ?_
    · obtain ⟨k0, k1, k2, k3⟩ := hS
      go_simp
    simp only [Act.put, List.setIfInBounds_toArray, List.set_cons_zero, List.set_cons_succ]
    refine wpZ_take (i := 17) (v := .pointer (some ⟨b, o, none⟩)) [] rfl (by kernel_rfl) (by kernel_rfl) (by kernel_rfl) (by kernel_rfl) (fun _ _ _ h => h) (.inl ⟨rfl, fun w' hS => ?_⟩) HS0.out ?_
    · obtain ⟨k0, k1, k2, k3⟩ := hS
      go_simp
    simp only [Act.put, List.setIfInBounds_toArray, List.set_cons_zero, List.set_cons_succ]
    refine wpZ_take (i := 18) (v := .pointer (some ⟨b, o, none⟩)) [] rfl (by kernel_rfl) (by kernel_rfl) (by kernel_rfl) (by kernel_rfl) (fun _ _ _ h => h) (.inl ⟨rfl, fun w' hS => ?_⟩) HS0.out ?_
    · obtain ⟨k0, k1, k2, k3⟩ := hS
      go_simp
    simp only [Act.put, List.setIfInBounds_toArray, List.set_cons_zero, List.set_cons_succ]
    refine wpZ_take (i := 19) (v := .pointer (some ⟨b, o + 7, none⟩)) [] rfl (by kernel_rfl) (by kernel_rfl) (by kernel_rfl) (by kernel_rfl) (fun _ _ _ h => h) (.inl ⟨rfl, fun w' hS => ?_⟩) HS0.out ?_
    · obtain ⟨k0, k1, k2, k3⟩ := hS
      go_simp
    simp only [Act.put, List.setIfInBounds_toArray, List.set_cons_zero, List.set_cons_succ]
    refine wpZ_take (i := 20) (v := .bool d.conn) [] rfl (by kernel_rfl) (by kernel_rfl) (by kernel_rfl) (by kernel_rfl) (fun _ _ _ h => h) (.inl ⟨rfl, fun w' hS => ?_⟩) HS0.out ?_
    · obtain ⟨k0, k1, k2, k3⟩ := hS
      go_simp
    simp only [Act.put, List.setIfInBounds_toArray, List.set_cons_zero, List.set_cons_succ]
    refine wpZ_one (i := 9) (by kernel_rfl) (wpOp_want rfl rfl ?_)
    go_simp
    go_at_call 67
    refine (CB1.out _).mono ?_
    rintro e w' ⟨rfl, hw⟩
    obtain rfl := hw
    refine ⟨HS0.out, ?_⟩
    try simp only [Act.put, List.setIfInBounds_toArray, List.set_cons_zero, List.set_cons_succ]
    refine wpZ_take (i := 10) (v := .int .u8 y1.toNat) [] rfl (by kernel_rfl) (by kernel_rfl) (by kernel_rfl) (by kernel_rfl) (fun _ _ _ h => h) (.inl ⟨rfl, fun w' hS => ?_⟩) HS0.out ?_
    · obtain ⟨k0, k1, k2, k3⟩ := hS
      go_simp
    simp only [Act.put, List.setIfInBounds_toArray, List.set_cons_zero, List.set_cons_succ]
    refine wpZ_one (i := 15) (by kernel_rfl) (wpOp_want rfl rfl ?_)
    go_simp
    go_at_call 67
    refine (CB2.out _).mono ?_
    rintro e w' ⟨rfl, hw⟩
    obtain rfl := hw
    refine ⟨HS0.out, ?_⟩
    try simp only [Act.put, List.setIfInBounds_toArray, List.set_cons_zero, List.set_cons_succ]
    refine wpZ_take (i := 16) (v := .int .u8 y2.toNat) [] rfl (by kernel_rfl) (by kernel_rfl) (by kernel_rfl) (by kernel_rfl) (fun _ _ _ h => h) (.inl ⟨rfl, fun w' hS => ?_⟩) HS0.out ?_
    · obtain ⟨k0, k1, k2, k3⟩ := hS
      go_simp
    simp only [Act.put, List.setIfInBounds_toArray, List.set_cons_zero, List.set_cons_succ]
    refine wpZ_one (i := 21) (by kernel_rfl) (wpOp_want rfl rfl ?_)
    go_simp
    go_at_call 67
    refine (CB3.out _).mono ?_
    rintro e w' ⟨rfl, hw⟩
    obtain rfl := hw
    refine ⟨HS0.out, ?_⟩
    try simp only [Act.put, List.setIfInBounds_toArray, List.set_cons_zero, List.set_cons_succ]
    refine wpZ_take (i := 22) (v := .int .u8 zb.toNat) [] rfl (by kernel_rfl) (by kernel_rfl) (by kernel_rfl) (by kernel_rfl) (fun _ _ _ h => h) (.inl ⟨rfl, fun w' hS => ?_⟩) HS0.out ?_
    · obtain ⟨k0, k1, k2, k3⟩ := hS
      go_simp
    simp only [Act.put, List.setIfInBounds_toArray, List.set_cons_zero, List.set_cons_succ]
    have HSA : Hid ((fun w' => w'.cell? ⟨s, 0, none⟩ = some (.slice ab st.1.length cb) ∧ w'.cell? ⟨b, o + 4, none⟩ = some (.bool d.folded) ∧ w'.cell? ⟨b, o + 5, none⟩ = some (.bool d.allIn) ∧ w'.cell? ⟨b, o + 7, none⟩ = some (.bool d.conn)) (W.alloc (.cells #[.int .u8 zb.toNat] 5)).drew) := ⟨by simpa using cell_of_row _ s 0 _ 72 (0, 0) (HSW.out.alloc (.cells #[.int .u8 zb.toNat] 5)).box, HKP.out _ HA.out⟩
    refine wpZ_one (i := 23) (by kernel_rfl) (wpOp_want rfl rfl ?_)
    go_simp
    refine ⟨HSA.out, ?_⟩
    refine wpZ_one (i := 24) (by kernel_rfl) (wpOp_want rfl rfl ?_)
    refine wp_append_lies _ _ _ 36 rfl 0 5 i0 (.int .u8 0) 1 1 Try.underlying36 hi0 hz0 hz1 hz2 rfl (by decide) _ _ _ rfl HOW.out ⟨W.heap.size, 0, none⟩ 1 1 [Value.int .u8 zb.toNat] rfl rfl (cell_one_new W _ _) (by intro u hu; simp at hu; subst hu; rfl) (by decide) (by unfold maxLen; omega) (by omega) (Nat.zero_le _) (W.heap.size + 1) (by simp) ?_
    intro g1 cap1 w1 hown1 hgrow1 hat1 hlt1
    obtain ⟨q1, q2, q3⟩ := put_one (w := W) (z := zb) (o := .cells #[.int .u8 zb.toNat] 5) rfl rfl hown1 (grown_drew hgrow1) hat1 rfl
    obtain ⟨hs1, hst, hfr⟩ := HSW.out.put q1 q2 q3
    have hc1 := cell_of_row w1 s 0 _ 72 (0, 0) hs1
    have hf1 := frozen_of_row w1 s 0 _ 72 hs1
    have HS1 : Hid ((fun w' => w'.cell? ⟨s, 0, none⟩ = some (.slice ab st.1.length cb) ∧ w'.cell? ⟨b, o + 4, none⟩ = some (.bool d.folded) ∧ w'.cell? ⟨b, o + 5, none⟩ = some (.bool d.allIn) ∧ w'.cell? ⟨b, o + 7, none⟩ = some (.bool d.conn)) w1) := ⟨hc1, HKP.out _ (HSW.out.same q2)⟩
    have HR := hd (And.intro hst hfr)
    clear hown1 hgrow1 hat1 q1 q2 q3 hs1 hst hfr
    refine ⟨fun _ => HS1.out, ?_⟩
    try simp only [Act.put, List.setIfInBounds_toArray, List.set_cons_zero, List.set_cons_succ]
    refine wpZ_take (i := 25) (v := .pointer (some ⟨s, 0, none⟩)) [26] rfl (by kernel_rfl) (by kernel_rfl) (by kernel_rfl) (by kernel_rfl) (fun _ _ _ h => h) (.inl ⟨rfl, fun w' hS => ?_⟩) HS1.out ?_
    · obtain ⟨k0, k1, k2, k3⟩ := hS
      go_simp
    try simp only [Act.put, List.setIfInBounds_toArray, List.set_cons_zero, List.set_cons_succ]
    refine wpZ_take (i := 26) (v := .pointer (some ⟨s, 0, none⟩)) [] rfl (by kernel_rfl) (by kernel_rfl) (by kernel_rfl) (by kernel_rfl) (fun _ _ _ h => h) (.inl ⟨rfl, fun w' hS => ?_⟩) HS1.out ?_
    · obtain ⟨k0, k1, k2, k3⟩ := hS
      go_simp
    try simp only [Act.put, List.setIfInBounds_toArray, List.set_cons_zero, List.set_cons_succ]
    refine wpZ_one (i := 27) (by kernel_rfl) (wpOp_want rfl rfl ?_)
    go_simp
    refine wpZ_done (by kernel_rfl) ?_
    have HF1 := hd (HFW.out.trans HR.out.2)
    have C1 := hd (s_int 60 (.inl rfl) s R _ _ _ ⟨b, o, none⟩ d.seat HK.out.seat.1 HK.out.seat.2 _ HR.out.1 (by simp; omega) ((HF1.out.cell (p := ⟨b, o, none⟩) hb).trans HD.out.c0))
    generalize w1.setCell ⟨s, 0, none⟩ (.slice (some ⟨g1, 0, none⟩) (st.1.length + 1) cap1) = V1 at HF1 C1 ⊢
    clear HR HS1 HSA HS0 HOW HA HSW hc1 hf1
    go_wp2_with (first
      | (go_at_call 58; refine C5.out.mono ?_; rintro e V6 ⟨rfl, ⟨bv6, sv6, hS6⟩, hF6⟩; have HF6 := hd (HF5.out.trans hF6); have HS6 := hd hS6; clear hS6 hF6)
      | (go_at_call 60; refine C4.out.mono ?_; rintro e V5 ⟨rfl, ⟨bv5, sv5, hS5⟩, hF5⟩; have HF5 := hd (HF4.out.trans hF5); have C5 := hd (s_cards s R _ _ _ ⟨b, o + 6, none⟩ cv d.cards V5 hS5 HK.out.cards (by have h1 := b0.out; have h2 := b1.out; have h3 := b2.out; have h4 := b3.out; have h5 := b4.out; have h6 := HN.out; omega) hb ((HF5.out.cell (p := ⟨b, o + 6, none⟩) hb).trans HD.out.c6) (HD.out.cards.kept HF5.out.same)); clear hS5 hF5)
      | (go_at_call 60; refine C3.out.mono ?_; rintro e V4 ⟨rfl, ⟨bv4, sv4, hS4⟩, hF4⟩; have HF4 := hd (HF3.out.trans hF4); have C4 := hd (s_int 60 (.inl rfl) s R _ _ _ ⟨b, o + 3, none⟩ d.bet HK.out.bet.1 HK.out.bet.2 V4 hS4 (by have h1 := b0.out; have h2 := b1.out; have h3 := b2.out; have h4 := b3.out; have h6 := HN.out; omega) ((HF4.out.cell (p := ⟨b, o + 3, none⟩) hb).trans HD.out.c3)); clear hS4 hF4)
      | (go_at_call 64; refine C2.out.mono ?_; rintro e V3 ⟨rfl, ⟨bv3, sv3, hS3⟩, hF3⟩; have HF3 := hd (HF2.out.trans hF3); have C3 := hd (s_int 60 (.inl rfl) s R _ _ _ ⟨b, o + 2, none⟩ d.stack HK.out.stack.1 HK.out.stack.2 V3 hS3 (by have h1 := b0.out; have h2 := b1.out; have h3 := b2.out; have h6 := HN.out; omega) ((HF3.out.cell (p := ⟨b, o + 2, none⟩) hb).trans HD.out.c2)); clear hS3 hF3)
      | (go_at_call 60; refine C1.out.mono ?_; rintro e V2 ⟨rfl, ⟨bv2, sv2, hS2⟩, hF2⟩; have HF2 := hd (HF1.out.trans hF2); have C2 := hd (s_string s R (putV d.seat (putB zb st)) _ _ ⟨b, o + 1, none⟩ d.name V2 hS2 (by have h1 := b0.out; have h2 := b1.out; have h6 := HN.out; omega) (by have h1 := b0.out; have h2 := b1.out; omega) ((HF2.out.cell (p := ⟨b, o + 1, none⟩) hb).trans HD.out.c1)); clear hS2 hF2))
    go_end0
    exact ⟨rfl, ⟨_, _, HS6.out⟩, HF6.out⟩
  · go_enter Try.func68, Try.ntmps68
    go_wp2
    refine (show Code.wp _ _ _ _ (w.drewN 0) from ?_)
    have HSW := hd (HS.out.drewN 0)
    have HFW : Hid (Fr R w (w.drewN 0)) := ⟨rfl, rfl, rfl, Nat.le_refl _, fun _ _ => rfl⟩
    generalize w.drewN 0 = W at HSW HFW ⊢
    have hcbW : W.cell? ⟨s, 0, none⟩ = some (.slice ab st.1.length cb) := by simpa using cell_of_row W s 0 _ 72 (0, 0) HSW.out.box
    have HKP : Hid (∀ w', Same R W w' → w'.cell? ⟨b, o + 4, none⟩ = some (.bool d.folded) ∧ w'.cell? ⟨b, o + 5, none⟩ = some (.bool d.allIn) ∧ w'.cell? ⟨b, o + 7, none⟩ = some (.bool d.conn)) := fun w' hw =>
      ⟨(hw.cell (p := ⟨b, o + 4, none⟩) hb).trans ((HFW.out.cell (p := ⟨b, o + 4, none⟩) hb).trans c4), (hw.cell (p := ⟨b, o + 5, none⟩) hb).trans ((HFW.out.cell (p := ⟨b, o + 5, none⟩) hb).trans c5), (hw.cell (p := ⟨b, o + 7, none⟩) hb).trans ((HFW.out.cell (p := ⟨b, o + 7, none⟩) hb).trans c7)⟩
    have HA : Hid (Same R W (W.alloc (.cells #[.int .u8 zb.toNat] 5))) := fun k hk => Below.heap_alloc W _ k (HSW.out.base k hk)
    have HOW := hd ((HSW.out.alloc (.cells #[.int .u8 zb.toNat] 5)).drew.bytes)
    have HS0 : Hid ((fun w' => w'.cell? ⟨s, 0, none⟩ = some (.slice ab st.1.length cb) ∧ w'.cell? ⟨b, o + 4, none⟩ = some (.bool d.folded) ∧ w'.cell? ⟨b, o + 5, none⟩ = some (.bool d.allIn) ∧ w'.cell? ⟨b, o + 7, none⟩ = some (.bool d.conn)) W.drew) := ⟨hcbW, HKP.out W.drew (fun _ _ => rfl)⟩
    refine wp_region_Z (fun w' => w'.cell? ⟨s, 0, none⟩ = some (.slice ab st.1.length cb) ∧ w'.cell? ⟨b, o + 4, none⟩ = some (.bool d.folded) ∧ w'.cell? ⟨b, o + 5, none⟩ = some (.bool d.allIn) ∧ w'.cell? ⟨b, o + 7, none⟩ = some (.bool d.conn)) 27 (by kernel_rfl) ?_
    show wpZ _ _ _ _ _ 28 (Array.replicate 28 false) _ _
    refine wpZ_take (i := 0) (v := .pointer (some ⟨s, 0, none⟩)) [] rfl (by kernel_rfl) (by kernel_rfl) (by kernel_rfl) (by kernel_rfl) (fun _ _ _ h => h) (.inl ⟨rfl, fun w' hS => ?_⟩) HS0.out ?_
    · obtain ⟨k0, k1, k2, k3⟩ := hS
      go_simp
    simp only [Act.put, List.setIfInBounds_toArray, List.set_cons_zero, List.set_cons_succ]
    refine wpZ_take (i := 1) (v := .pointer (some ⟨s, 0, none⟩)) [] rfl (by kernel_rfl) (by kernel_rfl) (by kernel_rfl) (by kernel_rfl) (fun _ _ _ h => h) (.inl ⟨rfl, fun w' hS => ?_⟩) HS0.out ?_
    · obtain ⟨k0, k1, k2, k3⟩ := hS
      go_simp
    simp only [Act.put, List.setIfInBounds_toArray, List.set_cons_zero, List.set_cons_succ]
    refine wpZ_take (i := 2) (v := .pointer (some ⟨s, 0, none⟩)) [] rfl (by kernel_rfl) (by kernel_rfl) (by kernel_rfl) (by kernel_rfl) (fun _ _ _ h => h) (.inl ⟨rfl, fun w' hS => ?_⟩) HS0.out ?_
    · obtain ⟨k0, k1, k2, k3⟩ := hS
      go_simp
    simp only [Act.put, List.setIfInBounds_toArray, List.set_cons_zero, List.set_cons_succ]
    refine wpZ_take (i := 3) (v := .pointer (some ⟨s, 0, none⟩)) [] rfl (by kernel_rfl) (by kernel_rfl) (by kernel_rfl) (by kernel_rfl) (fun _ _ _ h => h) (.inl ⟨rfl, fun w' hS => ?_⟩) HS0.out ?_
    · obtain ⟨k0, k1, k2, k3⟩ := hS
      go_simp
    simp only [Act.put, List.setIfInBounds_toArray, List.set_cons_zero, List.set_cons_succ]
    refine wpZ_take (i := 4) (v := .slice ab st.1.length cb) [] rfl (by kernel_rfl) (by kernel_rfl) (by kernel_rfl) (by kernel_rfl) (fun _ _ _ h => h) (.inl ⟨rfl, fun w' hS => ?_⟩) HS0.out ?_
    · obtain ⟨k0, k1, k2, k3⟩ := hS
      go_simp
    simp only [Act.put, List.setIfInBounds_toArray, List.set_cons_zero, List.set_cons_succ]
    refine wpZ_take (i := 5) (v := .pointer (some ⟨b, o, none⟩)) [] rfl (by kernel_rfl) (by kernel_rfl) (by kernel_rfl) (by kernel_rfl) (fun _ _ _ h => h) (.inl ⟨rfl, fun w' hS => ?_⟩) HS0.out ?_
    · obtain ⟨k0, k1, k2, k3⟩ := hS
      go_simp
    simp only [Act.put, List.setIfInBounds_toArray, List.set_cons_zero, List.set_cons_succ]
    refine wpZ_take (i := 6) (v := .pointer (some ⟨b, o, none⟩)) [] rfl (by kernel_rfl) (by kernel_rfl) (by kernel_rfl) (by kernel_rfl) (fun _ _ _ h => h) (.inl ⟨rfl, fun w' hS => ?_⟩) HS0.out ?_
    · obtain ⟨k0, k1, k2, k3⟩ := hS
      go_simp
    simp only [Act.put, List.setIfInBounds_toArray, List.set_cons_zero, List.set_cons_succ]
    refine wpZ_take (i := 7) (v := .pointer (some ⟨b, o + 4, none⟩)) [] rfl (by kernel_rfl) (by kernel_rfl) (by kernel_rfl) (by kernel_rfl) (fun _ _ _ h => h) (.inl ⟨rfl, fun w' hS => ?_⟩) HS0.out ?_
    · obtain ⟨k0, k1, k2, k3⟩ := hS
      go_simp
    simp only [Act.put, List.setIfInBounds_toArray, List.set_cons_zero, List.set_cons_succ]
    refine wpZ_take (i := 8) (v := .bool d.folded) [] rfl (by kernel_rfl) (by kernel_rfl) (by kernel_rfl) (by kernel_rfl) (fun _ _ _ h => h) (.inl ⟨rfl, fun w' hS => ?_⟩) HS0.out ?_
    · obtain ⟨k0, k1, k2, k3⟩ := hS
      go_simp
    simp only [Act.put, List.setIfInBounds_toArray, List.set_cons_zero, List.set_cons_succ]
    refine wpZ_take (i := 11) (v := .pointer (some ⟨b, o, none⟩)) [] rfl (by kernel_rfl) (by kernel_rfl) (by kernel_rfl) (by kernel_rfl) (fun _ _ _ h => h) (.inl ⟨rfl, fun w' hS => ?_⟩) HS0.out ?_
    · obtain ⟨k0, k1, k2, k3⟩ := hS
      go_simp
    simp only [Act.put, List.setIfInBounds_toArray, List.set_cons_zero, List.set_cons_succ]
    refine wpZ_take (i := 12) (v := .pointer (some ⟨b, o, none⟩)) [] rfl (by kernel_rfl) (by kernel_rfl) (by kernel_rfl) (by kernel_rfl) (fun _ _ _ h => h) (.inl ⟨rfl, fun w' hS => ?_⟩) HS0.out ?_
    · obtain ⟨k0, k1, k2, k3⟩ := hS
      go_simp
    simp only [Act.put, List.setIfInBounds_toArray, List.set_cons_zero, List.set_cons_succ]
    refine wpZ_take (i := 13) (v := .pointer (some ⟨b, o + 5, none⟩)) [] rfl (by kernel_rfl) (by kernel_rfl) (by kernel_rfl) (by kernel_rfl) (fun _ _ _ h => h) (.inl ⟨rfl, fun w' hS => ?_⟩) HS0.out ?_
    · obtain ⟨k0, k1, k2, k3⟩ := hS
      go_simp
    simp only [Act.put, List.setIfInBounds_toArray, List.set_cons_zero, List.set_cons_succ]
    refine wpZ_take (i := 14) (v := .bool d.allIn) [] rfl (by kernel_rfl) (by kernel_rfl) (by kernel_rfl) (by kernel_rfl) (fun _ _ _ h => h) (.inl ⟨rfl, fun w' hS => ?_⟩) HS0.out ?_
    · obtain ⟨k0, k1, k2, k3⟩ := hS
      go_simp
    simp only [Act.put, List.setIfInBounds_toArray, List.set_cons_zero, List.set_cons_succ]
    refine wpZ_take (i := 17) (v := .pointer (some ⟨b, o, none⟩)) [] rfl (by kernel_rfl) (by kernel_rfl) (by kernel_rfl) (by kernel_rfl) (fun _ _ _ h => h) (.inl ⟨rfl, fun w' hS => ?_⟩) HS0.out ?_
    · obtain ⟨k0, k1, k2, k3⟩ := hS
      go_simp
    simp only [Act.put, List.setIfInBounds_toArray, List.set_cons_zero, List.set_cons_succ]
    refine wpZ_take (i := 18) (v := .pointer (some ⟨b, o, none⟩)) [] rfl (by kernel_rfl) (by kernel_rfl) (by kernel_rfl) (by kernel_rfl) (fun _ _ _ h => h) (.inl ⟨rfl, fun w' hS => ?_⟩) HS0.out ?_
    · obtain ⟨k0, k1, k2, k3⟩ := hS
      go_simp
    simp only [Act.put, List.setIfInBounds_toArray, List.set_cons_zero, List.set_cons_succ]
    refine wpZ_take (i := 19) (v := .pointer (some ⟨b, o + 7, none⟩)) [] rfl (by kernel_rfl) (by kernel_rfl) (by kernel_rfl) (by kernel_rfl) (fun _ _ _ h => h) (.inl ⟨rfl, fun w' hS => ?_⟩) HS0.out ?_
    · obtain ⟨k0, k1, k2, k3⟩ := hS
      go_simp
    simp only [Act.put, List.setIfInBounds_toArray, List.set_cons_zero, List.set_cons_succ]
    refine wpZ_take (i := 20) (v := .bool d.conn) [] rfl (by kernel_rfl) (by kernel_rfl) (by kernel_rfl) (by kernel_rfl) (fun _ _ _ h => h) (.inl ⟨rfl, fun w' hS => ?_⟩) HS0.out ?_
    · obtain ⟨k0, k1, k2, k3⟩ := hS
      go_simp
    simp only [Act.put, List.setIfInBounds_toArray, List.set_cons_zero, List.set_cons_succ]
    refine wpZ_one (i := 9) (by kernel_rfl) (wpOp_want rfl rfl ?_)
    go_simp
    go_at_call 67
    refine (CB1.out _).mono ?_
    rintro e w' ⟨rfl, hw⟩
    obtain rfl := hw
    refine ⟨HS0.out, ?_⟩
    try simp only [Act.put, List.setIfInBounds_toArray, List.set_cons_zero, List.set_cons_succ]
    refine wpZ_take (i := 10) (v := .int .u8 y1.toNat) [] rfl (by kernel_rfl) (by kernel_rfl) (by kernel_rfl) (by kernel_rfl) (fun _ _ _ h => h) (.inl ⟨rfl, fun w' hS => ?_⟩) HS0.out ?_
    · obtain ⟨k0, k1, k2, k3⟩ := hS
      go_simp
    simp only [Act.put, List.setIfInBounds_toArray, List.set_cons_zero, List.set_cons_succ]
    refine wpZ_one (i := 15) (by kernel_rfl) (wpOp_want rfl rfl ?_)
    go_simp
    go_at_call 67
    refine (CB2.out _).mono ?_
    rintro e w' ⟨rfl, hw⟩
    obtain rfl := hw
    refine ⟨HS0.out, ?_⟩
    try simp only [Act.put, List.setIfInBounds_toArray, List.set_cons_zero, List.set_cons_succ]
    refine wpZ_take (i := 16) (v := .int .u8 y2.toNat) [] rfl (by kernel_rfl) (by kernel_rfl) (by kernel_rfl) (by kernel_rfl) (fun _ _ _ h => h) (.inl ⟨rfl, fun w' hS => ?_⟩) HS0.out ?_
    · obtain ⟨k0, k1, k2, k3⟩ := hS
      go_simp
    simp only [Act.put, List.setIfInBounds_toArray, List.set_cons_zero, List.set_cons_succ]
    refine wpZ_one (i := 21) (by kernel_rfl) (wpOp_want rfl rfl ?_)
    go_simp
    go_at_call 67
    refine (CB3.out _).mono ?_
    rintro e w' ⟨rfl, hw⟩
    obtain rfl := hw
    refine ⟨HS0.out, ?_⟩
    try simp only [Act.put, List.setIfInBounds_toArray, List.set_cons_zero, List.set_cons_succ]
    refine wpZ_take (i := 22) (v := .int .u8 zb.toNat) [] rfl (by kernel_rfl) (by kernel_rfl) (by kernel_rfl) (by kernel_rfl) (fun _ _ _ h => h) (.inl ⟨rfl, fun w' hS => ?_⟩) HS0.out ?_
    · obtain ⟨k0, k1, k2, k3⟩ := hS
      go_simp
    simp only [Act.put, List.setIfInBounds_toArray, List.set_cons_zero, List.set_cons_succ]
    have HSA : Hid ((fun w' => w'.cell? ⟨s, 0, none⟩ = some (.slice ab st.1.length cb) ∧ w'.cell? ⟨b, o + 4, none⟩ = some (.bool d.folded) ∧ w'.cell? ⟨b, o + 5, none⟩ = some (.bool d.allIn) ∧ w'.cell? ⟨b, o + 7, none⟩ = some (.bool d.conn)) (W.alloc (.cells #[.int .u8 zb.toNat] 5)).drew) := ⟨by simpa using cell_of_row _ s 0 _ 72 (0, 0) (HSW.out.alloc (.cells #[.int .u8 zb.toNat] 5)).box, HKP.out _ HA.out⟩
    refine wpZ_one (i := 23) (by kernel_rfl) (wpOp_want rfl rfl ?_)
    go_simp
    refine ⟨HSA.out, ?_⟩
    refine wpZ_one (i := 24) (by kernel_rfl) (wpOp_want rfl rfl ?_)
    refine wp_append_lies _ _ _ 36 rfl 0 5 i0 (.int .u8 0) 1 1 Try.underlying36 hi0 hz0 hz1 hz2 rfl (by decide) _ _ _ rfl HOW.out ⟨W.heap.size, 0, none⟩ 1 1 [Value.int .u8 zb.toNat] rfl rfl (cell_one_new W _ _) (by intro u hu; simp at hu; subst hu; rfl) (by decide) (by unfold maxLen; omega) (by omega) (Nat.zero_le _) (W.heap.size + 1) (by simp) ?_
    intro g1 cap1 w1 hown1 hgrow1 hat1 hlt1
    obtain ⟨q1, q2, q3⟩ := put_one (w := W) (z := zb) (o := .cells #[.int .u8 zb.toNat] 5) rfl rfl hown1 (grown_drew hgrow1) hat1 rfl
    obtain ⟨hs1, hst, hfr⟩ := HSW.out.put q1 q2 q3
    have hc1 := cell_of_row w1 s 0 _ 72 (0, 0) hs1
    have hf1 := frozen_of_row w1 s 0 _ 72 hs1
    have HS1 : Hid ((fun w' => w'.cell? ⟨s, 0, none⟩ = some (.slice ab st.1.length cb) ∧ w'.cell? ⟨b, o + 4, none⟩ = some (.bool d.folded) ∧ w'.cell? ⟨b, o + 5, none⟩ = some (.bool d.allIn) ∧ w'.cell? ⟨b, o + 7, none⟩ = some (.bool d.conn)) w1) := ⟨hc1, HKP.out _ (HSW.out.same q2)⟩
    have HR := hd (And.intro hst hfr)
    clear hown1 hgrow1 hat1 q1 q2 q3 hs1 hst hfr
    refine ⟨fun _ => HS1.out, ?_⟩
    try simp only [Act.put, List.setIfInBounds_toArray, List.set_cons_zero, List.set_cons_succ]
    refine wpZ_take (i := 25) (v := .pointer (some ⟨s, 0, none⟩)) [26] rfl (by kernel_rfl) (by kernel_rfl) (by kernel_rfl) (by kernel_rfl) (fun _ _ _ h => h) (.inl ⟨rfl, fun w' hS => ?_⟩) HS1.out ?_
    · obtain ⟨k0, k1, k2, k3⟩ := hS
      go_simp
    try simp only [Act.put, List.setIfInBounds_toArray, List.set_cons_zero, List.set_cons_succ]
    refine wpZ_take (i := 26) (v := .pointer (some ⟨s, 0, none⟩)) [] rfl (by kernel_rfl) (by kernel_rfl) (by kernel_rfl) (by kernel_rfl) (fun _ _ _ h => h) (.inl ⟨rfl, fun w' hS => ?_⟩) HS1.out ?_
    · obtain ⟨k0, k1, k2, k3⟩ := hS
      go_simp
    try simp only [Act.put, List.setIfInBounds_toArray, List.set_cons_zero, List.set_cons_succ]
    refine wpZ_one (i := 27) (by kernel_rfl) (wpOp_want rfl rfl ?_)
    go_simp
    refine wpZ_done (by kernel_rfl) ?_
    have HF1 := hd (HFW.out.trans HR.out.2)
    have C1 := hd (s_int 60 (.inl rfl) s R _ _ _ ⟨b, o, none⟩ d.seat HK.out.seat.1 HK.out.seat.2 _ HR.out.1 (by simp; omega) ((HF1.out.cell (p := ⟨b, o, none⟩) hb).trans HD.out.c0))
    generalize w1.setCell ⟨s, 0, none⟩ (.slice (some ⟨g1, 0, none⟩) (st.1.length + 1) cap1) = V1 at HF1 C1 ⊢
    clear HR HS1 HSA HS0 HOW HA HSW hc1 hf1
    go_wp2_with (first
      | (go_at_call 58; refine C5.out.mono ?_; rintro e V6 ⟨rfl, ⟨bv6, sv6, hS6⟩, hF6⟩; have HF6 := hd (HF5.out.trans hF6); have HS6 := hd hS6; clear hS6 hF6)
      | (go_at_call 60; refine C4.out.mono ?_; rintro e V5 ⟨rfl, ⟨bv5, sv5, hS5⟩, hF5⟩; have HF5 := hd (HF4.out.trans hF5); have C5 := hd (s_cards s R _ _ _ ⟨b, o + 6, none⟩ cv d.cards V5 hS5 HK.out.cards (by have h1 := b0.out; have h2 := b1.out; have h3 := b2.out; have h4 := b3.out; have h5 := b4.out; have h6 := HN.out; omega) hb ((HF5.out.cell (p := ⟨b, o + 6, none⟩) hb).trans HD.out.c6) (HD.out.cards.kept HF5.out.same)); clear hS5 hF5)
      | (go_at_call 60; refine C3.out.mono ?_; rintro e V4 ⟨rfl, ⟨bv4, sv4, hS4⟩, hF4⟩; have HF4 := hd (HF3.out.trans hF4); have C4 := hd (s_int 60 (.inl rfl) s R _ _ _ ⟨b, o + 3, none⟩ d.bet HK.out.bet.1 HK.out.bet.2 V4 hS4 (by have h1 := b0.out; have h2 := b1.out; have h3 := b2.out; have h4 := b3.out; have h6 := HN.out; omega) ((HF4.out.cell (p := ⟨b, o + 3, none⟩) hb).trans HD.out.c3)); clear hS4 hF4)
      | (go_at_call 64; refine C2.out.mono ?_; rintro e V3 ⟨rfl, ⟨bv3, sv3, hS3⟩, hF3⟩; have HF3 := hd (HF2.out.trans hF3); have C3 := hd (s_int 60 (.inl rfl) s R _ _ _ ⟨b, o + 2, none⟩ d.stack HK.out.stack.1 HK.out.stack.2 V3 hS3 (by have h1 := b0.out; have h2 := b1.out; have h3 := b2.out; have h6 := HN.out; omega) ((HF3.out.cell (p := ⟨b, o + 2, none⟩) hb).trans HD.out.c2)); clear hS3 hF3)
      | (go_at_call 60; refine C1.out.mono ?_; rintro e V2 ⟨rfl, ⟨bv2, sv2, hS2⟩, hF2⟩; have HF2 := hd (HF1.out.trans hF2); have C2 := hd (s_string s R (putV d.seat (putB zb st)) _ _ ⟨b, o + 1, none⟩ d.name V2 hS2 (by have h1 := b0.out; have h2 := b1.out; have h6 := HN.out; omega) (by have h1 := b0.out; have h2 := b1.out; omega) ((HF2.out.cell (p := ⟨b, o + 1, none⟩) hb).trans HD.out.c1)); clear hS2 hF2))
    go_end0
    exact ⟨rfl, ⟨_, _, HS6.out⟩, HF6.out⟩
end Go.Proofs.Qxb6618929a
