/-
  The law's function: the walk.
-/
import Derived.Test.Qxb6618872aMore
import Derived.Deep.CutBlock
namespace Go.Proofs.Qxb6618872a
open Go Go.RowKit

theorem box_at {w w' : World} {a b c : Value} (h : Below (w.heap.size + 1) (w.alloc (.cells #[a, b, c] 25)) w') :
    w'.cell? ⟨w.heap.size, 0, none⟩ = some a ∧ w'.cell? ⟨w.heap.size, 1, none⟩ = some b ∧ w'.cell? ⟨w.heap.size, 2, none⟩ = some c :=
  ⟨(h.cell (p := ⟨w.heap.size, 0, none⟩) (Nat.lt_succ_self _)).trans (by simp), (h.cell (p := ⟨w.heap.size, 1, none⟩) (Nat.lt_succ_self _)).trans (by simp), (h.cell (p := ⟨w.heap.size, 2, none⟩) (Nat.lt_succ_self _)).trans (by simp)⟩

theorem strs_key {w : World} {ao : Option Addr} {n : Nat} {ss : List ByteArray} (h : StrsAt w ao n ss) :
    n ≤ 0 ∨ (0 < n ∧ ∃ b off, ao = some ⟨b, off, none⟩ ∧ b < w.heap.size ∧ Hid (∀ w', Below w.heap.size w w' → ∀ i, i < n → w'.cell? ⟨b, off + i, none⟩ = some (.string (ss.getD i ByteArray.empty)))) := by
  by_cases h0 : 0 < n
  · obtain ⟨b, off, hb, ha, hc⟩ := h.2.2.2 h0
    exact .inr ⟨h0, b, off, ha, hb, fun w' hw i hi => (hw.cell (p := ⟨b, off + i, none⟩) hb).trans (hc i hi)⟩
  · exact .inl (by omega)

theorem grown_map {W w w' : World} {b : Nat} (h : Below W.heap.size W w) (hg : w.grownBy w' (some b)) (hb : W.heap.size ≤ b) : Below W.heap.size W w' :=
  h.grown hg h.size (fun j e => by have := Option.some.inj e; omega)

theorem roles_cells {w : World} {g m : Nat} {R : List RIn} (h : RolesAt w (some ⟨g, 0, none⟩) m R) (w' : World) (hb : Below w.heap.size w w') (i : Nat) (hi : i < m) :
    w'.cell? ⟨g, i * 3, none⟩ = some (.string (R.getD i RIn.none).name) ∧ w'.cell? ⟨g, i * 3 + 1, none⟩ = some (.slice (R.getD i RIn.none).aa (R.getD i RIn.none).an (R.getD i RIn.none).ac) ∧
      w'.cell? ⟨g, i * 3 + 2, none⟩ = some (.slice (R.getD i RIn.none).da (R.getD i RIn.none).dn (R.getD i RIn.none).dc) ∧ (R.getD i RIn.none).ok w' := by
  obtain ⟨b, off, hlt, ha, hc⟩ := h.2.2 (by omega)
  have e := Option.some.inj ha
  have e1 : g = b := congrArg Addr.block e
  have e2 : 0 = off := congrArg Addr.off e
  subst e1; subst e2
  have := hc i hi
  simp only [Nat.zero_add] at this
  exact ⟨(hb.cell (p := ⟨g, i * 3, none⟩) hlt).trans this.1, (hb.cell (p := ⟨g, i * 3 + 1, none⟩) hlt).trans this.2.1, (hb.cell (p := ⟨g, i * 3 + 2, none⟩) hlt).trans this.2.2, (h.2.1 _ (getD_mem (by rw [h.1]; exact hi))).below (Nat.le_refl _) hb⟩

theorem lies_shape {w : World} {v : Value} {L : List (List UInt8)} (h : Lies w v L) :
    ∃ ao c, v = .slice ao L.length c ∧ Hid (L.length ≤ 0 ∨ (0 < L.length ∧ ∃ b, ao = some ⟨b, 0, none⟩ ∧ b < w.heap.size ∧ Hid (∀ w', Below w.heap.size w w' → ∀ i, i < L.length → w'.cell? ⟨b, i, none⟩ = some (.string ⟨(L.getD i []).toArray⟩)))) := by
  obtain ⟨_, _, h3⟩ := h
  rcases h3 with ⟨n, h1, h2, ao, c, h4⟩ | ⟨b, c, hlt, h4, h5⟩
  · exact ⟨ao, c, by rw [h2]; exact h4, .inl (by omega)⟩
  · refine ⟨_, c, h4, ?_⟩
    by_cases h0 : 0 < L.length
    · exact .inr ⟨h0, b, rfl, hlt, fun w' hw i hi => (hw.cell (p := ⟨b, i, none⟩) hlt).trans (h5 i hi)⟩
    · exact .inl (by omega)

theorem take_mem {L : List (List UInt8)} {k : Nat} (hk : k < L.length) (l : List UInt8) : l ∈ L.take (k + 1) ↔ l = L.getD k [] ∨ l ∈ L.take k := by
  rw [List.take_succ_eq_append_getElem hk, List.mem_append, List.mem_singleton, Or.comm]
  simp [List.getD, hk]
theorem rising_fresh {L : List (List UInt8)} (hr : Rising L) {k : Nat} (hk : k < L.length) : L.getD k [] ∉ L.take k := fun hm => by
  obtain ⟨i, hi, he⟩ := List.getElem_of_mem hm
  have hi' : i < k := by rw [List.length_take] at hi; omega
  have h := (hr i k (by omega) hk hi').2
  apply h
  rw [List.getElem_take] at he
  rw [he]
  simp [List.getD, hk]
theorem rising_nodup {L : List (List UInt8)} (hr : Rising L) : L.Nodup := List.pairwise_iff_getElem.2 fun i j hi hj hij => (hr i j hi hj hij).2
theorem look_str {w : World} {b n : Nat} {S : List (List UInt8)} (h : OwnSet w b n S) (s : List UInt8) (hs : s.length ≤ maxLen) (r : Bool) (hr : decide (s ∈ S) = r) :
    (Instr.lookup 32 (.map (some b)) (.string ⟨s.toArray⟩) false).run Try.prog w = .ok (.bool r) w := by
  have := h.look ⟨s.toArray⟩ (by simpa [ByteArray.size] using hs)
  rw [this, ← hr]
theorem look_bytes {w : World} {b n : Nat} {S : List (List UInt8)} (h : OwnSet w b n S) (s : ByteArray) (hs : s.size ≤ maxLen) (r : Bool) (hr : decide (s.data.toList ∈ S) = r) :
    (Instr.lookup 32 (.map (some b)) (.string s) false).run Try.prog w = .ok (.bool r) w := by rw [h.look s hs, hr]

theorem keys_take {ss : List ByteArray} {k : Nat} (hk : k < ss.length) (l : List UInt8) : l ∈ keysOf (ss.take (k + 1)) ↔ l = (ss.getD k ByteArray.empty).data.toList ∨ l ∈ keysOf (ss.take k) := by
  rw [← keys_snoc ss k hk l, List.mem_cons]

/-- All that some role denies. -/
def denials (R : List RIn) : List (List UInt8) := R.flatMap fun r => keysOf r.de
theorem denials_snoc (R : List RIn) (k : Nat) (hk : k < R.length) (l : List UInt8) : l ∈ keysOf (R.getD k RIn.none).de ++ denials (R.take k) ↔ l ∈ denials (R.take (k + 1)) := by
  unfold denials
  rw [List.take_succ_eq_append_getElem hk, List.flatMap_append, List.mem_append, List.mem_append, Or.comm]
  simp [List.getD, hk]
theorem keys_add (ss : List ByteArray) (k : Nat) (h : k < ss.length) (D : List (List UInt8)) (l : List UInt8) : l ∈ (ss.getD k ByteArray.empty).data.toList :: (keysOf (ss.take k) ++ D) ↔ l ∈ keysOf (ss.take (k + 1)) ++ D := by
  rw [← List.cons_append, List.mem_append, List.mem_append, keys_snoc ss k h l]

theorem denials_iff (R : List RIn) (l : List UInt8) : l ∈ denials R ↔ denied R l = true := by
  unfold denials denied
  rw [List.mem_flatMap, List.any_eq_true]
  simp

/-- THE PLAIN LAW: the logins with one role more. -/
theorem one_more (rs : List RIn) (x : RIn) (pk : ByteArray) (l : List UInt8) :
    (l ∈ allowed (rs ++ [x]) pk ∧ denied (rs ++ [x]) l = false) ↔ (((l ∈ allowed rs pk ∧ denied rs l = false) ∧ l ∉ keysOf x.de) ∨ ((x.name.toList == pk.toList) = true ∧ l ∈ keysOf x.al ∧ l ∉ denials (rs ++ [x]))) := by
  rw [denials_iff]
  have h1 : denied (rs ++ [x]) l = (denied rs l || decide (l ∈ keysOf x.de)) := by simp [denied, List.any_append]
  have h2 : l ∈ allowed (rs ++ [x]) pk ↔ (l ∈ allowed rs pk ∨ ((x.name.toList == pk.toList) = true ∧ l ∈ keysOf x.al)) := by
    unfold allowed
    rw [List.flatMap_append, List.mem_append]
    simp only [List.flatMap_cons, List.flatMap_nil, List.append_nil]
    by_cases h : (x.name.toList == pk.toList) = true
    · rw [if_pos h]; simp only [h, true_and]
    · rw [if_neg h]
      constructor
      · rintro (h3 | h3)
        · exact .inl h3
        · simp at h3
      · rintro (h3 | h3)
        · exact .inl h3
        · exact absurd h3.1 h
  rw [h1, h2]
  by_cases a : denied rs l = true <;> by_cases b : l ∈ keysOf x.de <;> by_cases c : l ∈ allowed rs pk <;> by_cases d : (x.name.toList == pk.toList) = true <;> by_cases e : l ∈ keysOf x.al <;> simp_all

theorem same_len {A B : List (List UInt8)} (ha : A.Nodup) (hb : B.Nodup) (h : ∀ l, l ∈ A ↔ l ∈ B) : A.length = B.length := ((List.perm_ext_iff_of_nodup ha hb).2 h).length_eq

/-- The logins of the roles: the list L, rising, in memory. -/
def Logs (w : World) (v : Value) (rs : List RIn) (pk : ByteArray) (L : List (List UInt8)) : Prop := Rising L ∧ (∀ l, l ∈ L ↔ l ∈ allowed rs pk ∧ denied rs l = false) ∧ Lies w v L

theorem Lies.below {w w' : World} {v : Value} {L : List (List UInt8)} (h : Lies w v L) (hb : Below w.heap.size w w') : Lies w' v L := by
  obtain ⟨h1, h2, h3⟩ := h
  refine ⟨h1, h2, ?_⟩
  rcases h3 with h3 | ⟨b, c, hlt, h4, h5⟩
  · exact .inl h3
  · exact .inr ⟨b, c, Nat.lt_of_lt_of_le hlt hb.size, h4, fun i hi => (hb.cell (p := ⟨b, i, none⟩) hlt).trans (h5 i hi)⟩

theorem named (rs : List RIn) (pk : ByteArray) (hn : rs.length ≤ 1048577) (hsm : ∀ r ∈ rs, Small r) (w : World) (p : Value) (hp : PolAt w p rs) :
    Calls Try.prog 7 #[p, .string pk] w fun e w' => ∃ v L, e = .returned v ∧ Logs w' v rs pk L ∧ w.grownBy w' none :=
  (loginsNamed hp hn hsm pk).mono fun _ _ ⟨v, L, h1, h2, h3, h4, h5, h6, h7⟩ => ⟨v, L, h1, ⟨h2, h3, lies_of_owns h6 h5 h4⟩, h7⟩

set_option maxRecDepth 100000 in
set_option maxHeartbeats 8000000 in
theorem walk (ao : Option Addr) (n c : Nat) (rs : List RIn) (pk : ByteArray) (x : RIn) (w : World) (hn : n ≤ maxLen) (hs : RolesAt w ao n rs) (hp : pk.size ≤ maxLen) (hx : x.ok w) :
    Calls Try.prog 3 #[.slice ao n c, .string pk, .agg x.cells.toArray] w fun e w' => e = .returned (.bool true) ∧ w.grownBy w' none := by
  have hb0 : Below w.heap.size w (w.alloc (.cells x.cells.toArray 25)) := (Below.refl _ _).alloc (Nat.le_refl _) _
  obtain ⟨w0, hw0⟩ : ∃ w0, w.alloc (.cells x.cells.toArray 25) = w0 := ⟨_, rfl⟩
  rw [hw0] at hb0
  have hsz0 : w0.heap.size = w.heap.size + 1 := by rw [← hw0]; simp
  have hs0 := hs.below (Nat.le_refl _) hb0
  have hx0 := hx.below (Nat.le_refl _) hb0
  have C4 : Hid (Calls Try.prog 4 #[.slice ao n c, .string pk, .agg x.cells.toArray] w0 fun e w' => (e = .returned (.bool false) ∨ (e = .returned (.bool true) ∧ Hid (n ≤ 1048576 ∧ (∀ r ∈ rs, Small r) ∧ Small x))) ∧ w' = w0.alloc (.cells x.cells.toArray 25)) :=
    (zzBytes ao n c rs pk x w0 hn hs0 hp hx0).mono fun e w' ⟨⟨r, h1, h2⟩, h3⟩ => ⟨by cases r; exact .inl h1; exact .inr ⟨h1, h2 rfl⟩, h3⟩
  have HBO : Hid (∀ w', Below (w.heap.size + 1) w0 w' → w'.cell? ⟨w.heap.size, 0, none⟩ = some (.string x.name) ∧ w'.cell? ⟨w.heap.size, 1, none⟩ = some (.slice x.aa x.an x.ac) ∧ w'.cell? ⟨w.heap.size, 2, none⟩ = some (.slice x.da x.dn x.dc)) := fun w' h => box_at (by rw [← hw0] at h; exact h)
  have hbx := HBO.out w0 (Below.refl _ _)
  have HD1 : Hid (Below (w.heap.size + 1) w0 (w0.alloc (.cells x.cells.toArray 25))) := (Below.refl _ _).alloc (by omega) _
  have C5 : Hid (∀ w', pk.size ≤ 1048576 → Below (w.heap.size + 1) w0 w' → Calls Try.prog 5 #[.int .i64 pk.size, .slice ao n c] w' fun e w'' => SaysT e ∧ w'.grownBy w'' none) := fun w' hpk h =>
    rolesBytes pk.size ao n c rs w' (by omega) (by omega) hn (hs0.below (by omega) h)
  have C6 : Hid (∀ w' (t : Int), 0 ≤ t → t ≤ 1048577 → Below (w.heap.size + 1) w0 w' → Calls Try.prog 6 #[.int .i64 t, .agg x.cells.toArray] w' fun e w'' => SaysT e ∧ w'.grownBy w'' none) := fun w' t h0 h1 h =>
    (roleBytes t x w' h0 (by omega) (hx0.below (by omega) h)).mono fun e w'' ⟨h2, h3⟩ => ⟨h2, by rw [h3]; exact World.grownBy_alloc _ _ _⟩
  have HS0 := hd hs0
  have HX0 := hd hx0
  have HB0 := hd hb0
  obtain ⟨nm, aa, an, ac, al, da, dn, dc, de⟩ := x
  simp only [RIn.cells] at *
  unfold maxLen at hn hp
  clear hs hx hs0 hx0 hb0
  have HDT : Hid (∀ w' w'', Below (w.heap.size + 1) w0 w' → w'.grownBy w'' none → Below (w.heap.size + 1) w0 w'') := fun w' w'' h1 h2 => h1.trans ((grown_below h2).mono (by have := h1.size; omega))
  have HEND : Hid (∀ w', Below (w.heap.size + 1) w0 w' → w.grownBy w' none) := fun w' h => below_grown (HB0.out.trans (h.mono (Nat.le_succ _)))
  by_cases hpk : pk.size ≤ 1048576
  rotate_left
  · go_enter Try.func3, Try.ntmps3
    go_wp2_with (first
      | (go_at_call 4; refine C4.out.mono ?_; rintro e w1 ⟨rfl | ⟨rfl, HY⟩, rfl⟩))
    all_goals
      go_ret
      exact ⟨rfl, HEND.out _ HD1.out⟩
  go_enter Try.func3, Try.ntmps3
  go_wp2_with (first
    | (go_at_call 4; refine C4.out.mono ?_; rintro e w1 ⟨rfl | ⟨rfl, HY⟩, rfl⟩)
    | (go_at_call 5; refine (C5.out _ hpk HD1.out).mono ?_; rintro e w2 ⟨⟨t1, rfl, ht0, ht1⟩, hg2⟩; have HD2 := hd (HDT.out _ _ HD1.out hg2); clear hg2))
  · go_ret
    exact ⟨rfl, HEND.out _ HD1.out⟩
  · go_ret
    exact ⟨rfl, HEND.out _ HD2.out⟩
  have HD3 := hd (HD2.out.drew)
  go_region_held3 (fun w' => w'.cell? ⟨w.heap.size, 0, none⟩ = some (.string nm) ∧ w'.cell? ⟨w.heap.size, 1, none⟩ = some (.slice aa an ac) ∧ w'.cell? ⟨w.heap.size, 2, none⟩ = some (.slice da dn dc))
    (first | exact HBO.out _ HD3.out | exact HBO.out _ HD4.out | exact HBO.out _ HD5.out)
    (first
      | (go_at_call 6; refine (C6.out _ t2 hu0 hu1 HD4.out).mono ?_; rintro e w4 ⟨⟨t3, rfl, hv0, hv1⟩, hg4⟩; have HD5 := hd (HDT.out _ _ HD4.out hg4); clear hg4)
      | (go_at_call 5; refine (C5.out _ hpk HD3.out).mono ?_; rintro e w3 ⟨⟨t2, rfl, hu0, hu1⟩, hg3⟩; have HD4 := hd (HDT.out _ _ HD3.out hg3); clear hg3))
  rename_i hHeld
  clear hHeld
  by_cases ht3 : t3 ≤ 1048576
  rotate_left
  · go_wp2
    go_ret
    exact ⟨rfl, HEND.out _ HD5.out⟩
  obtain ⟨i0, hi, hz0, hz1, hz2⟩ := info25_parts
  have hn1 : n ≤ 1048576 := HY.out.1
  have HB1 := hd (show i0.bytes * (n + 1) ≤ 281474976710656 by rw [hz2]; omega)
  go_upto_region 8 with (at_make; refine wpList_make_own _ rfl _ _ 22 rfl w4.heap.size 25 i0 _ 3 Try.underlying22 hi hz0 hz1 _ _ _ (n + 1) rfl rfl rfl HB1.out (by unfold maxLen; omega) (Nat.le_refl _) ?_; intro w5 hown5 hgrow5; have HOWN5 := hd hown5; have HG5 := hd hgrow5; clear hown5 hgrow5)
  go_cut [7] (fun v wc => v = .slice (some ⟨w4.heap.size, 0, none⟩) n (n + 1) ∧ Hid (wc.ownsRow w4.heap.size 25 3 (.slice (some ⟨w4.heap.size, 0, none⟩) n (n + 1)) n (rs.flatMap RIn.cells) ∧ w4.grownBy wc none))
  case first =>
    have hs5 := HS0.out.below (show w0.heap.size ≤ w.heap.size + 1 by omega) (HDT.out _ _ HD5.out HG5.out)
    obtain ⟨hl, _, hcell⟩ := hs5
    have key : n ≤ 0 ∨ (0 < n ∧ ∃ b off, ao = some ⟨b, off, none⟩ ∧ Hid (∀ j u, (rs.flatMap RIn.cells)[j]? = some u → w5.cell? ((⟨b, off, none⟩ : Addr).add j) = some u)) := by
      by_cases h0 : 0 < n
      · obtain ⟨b, off, hb, ha, hc⟩ := hcell h0
        exact .inr ⟨h0, b, off, ha, roles_news hl hc⟩
      · exact .inl (by omega)
    clear hcell
    rcases key with hn0 | ⟨hpos, b, off, rfl, HNEWS⟩
    · have hn00 : n = 0 := by omega
      have hrs : rs = [] := List.eq_nil_of_length_eq_zero (by omega)
      subst hn00
      subst hrs
      go_wp2_with (at_builtin; refine wpList_append_nothing rfl _ _ rfl ⟨w4.heap.size, 0, none⟩ 0 1 rfl (by omega) ao c rfl ?_)
      go_meet
      case rel => exact ⟨rfl, by simpa using HOWN5.out, HG5.out⟩
    · have hfl := rflat_len rs
      go_wp2_with (at_builtin; refine wpList_append_own_spare _ rfl _ _ 22 rfl w4.heap.size 25 i0 3 Try.underlying22 hi hz1 w4.heap.size 0 (n + 1) [] rfl HOWN5.out ⟨b, off, none⟩ n c (rs.flatMap RIn.cells) rfl ?h1 HNEWS.out (rflat_one rs) ?h2 ?_; (case h1 => rw [hfl, hl]); (case h2 => omega); intro w6 hown6 hgrow6; have HOWN6 := hd hown6; have HG6 := hd hgrow6; clear hown6 hgrow6)
      go_meet
      case rel =>
        refine ⟨by simp, ?_⟩
        refine ⟨by simpa using HOWN6.out, ?_⟩
        exact ⟨HG6.out.os.trans HG5.out.os, HG6.out.tape.trans HG5.out.tape, HG6.out.output.trans HG5.out.output, Nat.le_trans HG5.out.size HG6.out.size, fun j hj _ => (HG6.out.block j (Nat.lt_of_lt_of_le hj HG5.out.size) (fun e => by have := Option.some.inj e; omega)).trans (HG5.out.block j hj (by simp))⟩
  case rest =>
    obtain ⟨rfl, HWC⟩ := hcut
    have hdc := HDT.out _ _ HD5.out HWC.out.2
    have hbxc := HBO.out _ hdc
    have HDC := hd hdc
    have HLT4 := hd (owns_lt HWC.out.1)
    have HOWNC := hd (owns_block (w' := wc.alloc (.cells #[.string nm, .slice aa an ac, .slice da dn dc] 25)) HWC.out.1 (Below.heap_alloc wc _ _ (owns_lt HWC.out.1)))
    have HNW : Hid (∀ j u, (RIn.cells ⟨nm, aa, an, ac, al, da, dn, dc, de⟩)[j]? = some u → (wc.alloc (.cells #[.string nm, .slice aa an ac, .slice da dn dc] 25)).cell? ((⟨wc.heap.size, 0, none⟩ : Addr).add j) = some u) := World.news_of_block (heap_alloc_last wc (.cells #[.string nm, .slice aa an ac, .slice da dn dc] 25))
    have C8a : Hid (∀ w', Below (w.heap.size + 1) w0 w' → Calls Try.prog 8 #[.slice ao n c] w' fun e w'' => ∃ p, e = .returned p ∧ PolAt w'' p rs ∧ w'.grownBy w'' none) := fun w' h =>
      buildPolicy ao n c rs w' (by omega) (HS0.out.below (by omega) h) HY.out.2.1
    have C7a : Hid (∀ w' p, PolAt w' p rs → Calls Try.prog 7 #[p, .string pk] w' fun e w'' => ∃ v L, e = .returned v ∧ Logs w'' v rs pk L ∧ w'.grownBy w'' none) :=
      named rs pk (by have := HS0.out.1; omega) HY.out.2.1
    have HLR := hd HS0.out.1
    have C8b : Hid (∀ w7 w', RolesAt w7 (some ⟨w4.heap.size, 0, none⟩) (n + 1) (rs ++ [⟨nm, aa, an, ac, al, da, dn, dc, de⟩]) → Below w7.heap.size w7 w' → Calls Try.prog 8 #[.slice (some ⟨w4.heap.size, 0, none⟩) (n + 1) (n + 1)] w' fun e w'' => ∃ p, e = .returned p ∧ PolAt w'' p (rs ++ [⟨nm, aa, an, ac, al, da, dn, dc, de⟩]) ∧ w'.grownBy w'' none) := fun w7 w' h1 h2 =>
      buildPolicy _ (n + 1) (n + 1) _ w' (by omega) (h1.below (Nat.le_refl _) h2) (fun r hr => by
        rcases List.mem_append.1 hr with h | h
        · exact HY.out.2.1 r h
        · rw [List.mem_singleton] at h; rw [h]; exact HY.out.2.2)
    have C7b : Hid (∀ w' p, PolAt w' p (rs ++ [⟨nm, aa, an, ac, al, da, dn, dc, de⟩]) → Calls Try.prog 7 #[p, .string pk] w' fun e w'' => ∃ v L, e = .returned v ∧ Logs w'' v (rs ++ [⟨nm, aa, an, ac, al, da, dn, dc, de⟩]) pk L ∧ w'.grownBy w'' none) :=
      named _ pk (by have := HS0.out.1; simp; omega) (fun r hr => by
        rcases List.mem_append.1 hr with h | h
        · exact HY.out.2.1 r h
        · rw [List.mem_singleton] at h; rw [h]; exact HY.out.2.2)
    have C9 : Hid (∀ w7, w7.ownsRow w4.heap.size 25 3 (.slice (some ⟨w4.heap.size, 0, none⟩) (n + 1) (n + 1)) (n + 1) (rs.flatMap RIn.cells ++ RIn.cells ⟨nm, aa, an, ac, al, da, dn, dc, de⟩) → (wc.alloc (.cells #[.string nm, .slice aa an ac, .slice da dn dc] 25)).grownBy w7 (some w4.heap.size) →
        RolesAt w7 (some ⟨w4.heap.size, 0, none⟩) (n + 1) (rs ++ [⟨nm, aa, an, ac, al, da, dn, dc, de⟩]) ∧ Below (w.heap.size + 1) w0 w7) := fun w7 h1 h2 => by
      have hsz4 : w.heap.size + 1 ≤ w4.heap.size := by have := HD5.out.size; omega
      have hbw : Below (w.heap.size + 1) w0 w7 := by
        have hb1 : Below (w.heap.size + 1) w0 (wc.alloc (.cells #[.string nm, .slice aa an ac, .slice da dn dc] 25)) := HDC.out.alloc (by have := HDC.out.size; omega) _
        exact hb1.grown h2 (by have := hb1.size; omega) (fun j e => by have := Option.some.inj e; omega)
      refine ⟨roles_of_owns (by rw [List.flatMap_append]; simpa using h1) (by simp [HLR.out]) (fun r hr => ?_), hbw⟩
      rcases List.mem_append.1 hr with h | h
      · exact (HS0.out.2.1 r h).below (by omega) hbw
      · rw [List.mem_singleton] at h; rw [h]; exact HX0.out.below (by omega) hbw
    clear hdc
    go_upto_region 12 with (first
      | (at_builtin; refine wpList_append_own_spare _ rfl _ _ 22 rfl w4.heap.size 25 i0 3 Try.underlying22 hi hz1 w4.heap.size n (n + 1) (rs.flatMap RIn.cells) rfl HOWNC.out ⟨wc.heap.size, 0, none⟩ 1 1 (RIn.cells ⟨nm, aa, an, ac, al, da, dn, dc, de⟩) rfl rfl HNW.out (RIn.one _) (Nat.le_refl _) ?_; intro w7 hown7 hgrow7; have HR7 := hd (C9.out w7 hown7 hgrow7); clear hown7 hgrow7)
      | (go_at_call 7; refine (C7b.out _ _ HP2.out).mono ?_; rintro e w11 ⟨v2, L2, rfl, hl2, hg11⟩; have HL2 := hd hl2; have HG11 := hd hg11; clear hl2 hg11)
      | (go_at_call 8; refine (C8b.out _ _ HR7.out.1 HB9.out).mono ?_; rintro e w10 ⟨p2, rfl, hp2, hg10⟩; have HP2 := hd hp2; have HB10 := hd (HB9.out.trans ((grown_below hg10).mono HB9.out.size)); have HL1X := hd (grown_below hg10); clear hp2 hg10)
      | (go_at_call 7; refine (C7a.out _ _ HP1.out).mono ?_; rintro e w9 ⟨v1, L1, rfl, hl1, hg9⟩; have HL1 := hd hl1; have HB9 := hd (HB8.out.trans ((grown_below hg9).mono HB8.out.size)); clear hl1 hg9)
      | (go_at_call 8; refine (C8a.out _ HR7.out.2).mono ?_; rintro e w8 ⟨p1, rfl, hp1, hg8⟩; have HP1 := hd hp1; have HB8 := hd (grown_below hg8); clear hp1 hg8))
    have hbw : Below (w.heap.size + 1) w0 w11 := HR7.out.2.trans (((HB10.out.trans ((grown_below HG11.out).mono HB10.out.size))).mono (by have := HR7.out.2.size; omega))
    have HBW := hd hbw
    have HBX : Hid (∀ w', Below w11.heap.size w11 w' → w'.cell? ⟨w.heap.size, 2, none⟩ = some (.slice da dn dc)) := fun w' h => (HBO.out w' (hbw.trans (h.mono (by have := hbw.size; omega)))).2.2
    have HBXA : Hid (∀ w', Below w11.heap.size w11 w' → w'.cell? ⟨w.heap.size, 1, none⟩ = some (.slice aa an ac)) := fun w' h => (HBO.out w' (hbw.trans (h.mono (by have := hbw.size; omega)))).2.1
    have HBXN : Hid (∀ w', Below w11.heap.size w11 w' → w'.cell? ⟨w.heap.size, 0, none⟩ = some (.string nm)) := fun w' h => (HBO.out w' (hbw.trans (h.mono (by have := hbw.size; omega)))).1
    have HXK := hd (HX0.out.below (show w0.heap.size ≤ w.heap.size + 1 by omega) hbw)
    have HLI1 := hd ((HL1.out.2.2.below HL1X.out).below (grown_below HG11.out))
    have HLI2 := hd HL2.out.2.2
    have HRM := hd (HR7.out.1.below (Nat.le_refl _) (HB10.out.trans ((grown_below HG11.out).mono HB10.out.size)))
    have HM1 := hd (And.intro HL1.out.1 HL1.out.2.1)
    have HM2 := hd (And.intro HL2.out.1 HL2.out.2.1)
    have HSMX := hd HY.out.2.2
    have HSMR := hd HY.out.2.1
    clear hbxc hbw
    clear C4 C5 C6 C7a C7b C8a C8b C9 HBO HDT HNW HOWNC HR7 HP1 HB8 HL1 HB9 HP2 HB10 HL1X HL2 HG11 HWC HDC HOWN5 HG5 HD2 HD3 HD4 HD5 HD1 HY HS0
    obtain ⟨ao1, c1, rfl, HK1⟩ := lies_shape HLI1.out
    obtain ⟨ao2, c2, rfl, HK2⟩ := lies_shape HLI2.out
    have hl1 : L1.length ≤ 2199023255552 := HLI1.out.1
    have hl2 : L2.length ≤ 2199023255552 := HLI2.out.1
    have hmm := run_makeMap_none
    have hbxd : (w11.alloc (.map #[] 0)).cell? ⟨w.heap.size, 2, none⟩ = some (.slice da dn dc) := HBX.out _ ((Below.refl _ _).alloc (Nat.le_refl _) _)
    go_upto_block 0 with fail
    go_cut [12] (fun _ wc => Hid (OwnSet wc w11.heap.size 1048576 (keysOf de) ∧ Below w11.heap.size w11 wc))
    case first =>
      have hdn : dn ≤ 1048576 := HSMX.out.2
      have hdl := HXK.out.2.2.2.2.1
      have hds := HXK.out.2.2.2.2.2.2.1
      have key := strs_key HXK.out.2.2.2.2
      simp only at hdl hds key
      have HO0 := hd (ownSet_made w11)
      have HB0' : Hid (Below w11.heap.size w11 (w11.alloc (.map #[] 0))) := (Below.refl _ _).alloc (Nat.le_refl _) _
      clear hbxd
      rcases key with hn0 | ⟨hpos, b, off, rfl, hb, HC⟩
      all_goals
        go_wp2_with fail
        go_loopw [12, 69] (fun _ i wr => ∃ k : Nat, k ≤ dn ∧ i = .int .i64 k ∧ OwnSet wr w11.heap.size k (keysOf (de.take k)) ∧ Below w11.heap.size w11 wr) (fun _ i _ => dn - (intOf i).toNat)
        case atStart => exact ⟨0, Nat.zero_le _, rfl, HO0.out, HB0'.out⟩
        case round =>
          obtain ⟨k, hk, rfl, hown, hbel⟩ := hrel
          by_cases hlt : k < dn
          · try (exfalso; omega)
            all_goals
              have hc := HC.out wr hbel k hlt
              have hss := getD_size hds k
              have HKS := hd (keys_snoc de k (by omega))
              have HB := hd hbel
              have HOW := hd hown
              clear hbel hown
              generalize de.getD k ByteArray.empty = s at hc hss HKS
              go_wp2_with (at_mapUpdate; refine wpList_add _ rfl _ _ _ rfl w11.heap.size k _ rfl HOW.out (by unfold maxLen; omega) s rfl rfl hss ?_; intro w1 hown1 hgrow1)
              have HR := hd (And.intro (hown1.congr HKS.out) (grown_map HB.out hgrow1 (Nat.le_refl _)))
              clear hown1 hgrow1
              go_wp2
              go_roundw
              case rel => exact ⟨k + 1, by omega, by go_num, HR.out.1, HR.out.2⟩
              case measure => simp [intOf]; omega
          · have HR := hd (And.intro (hown.mono (show k ≤ 1048576 by omega)) hbel)
            have HT := hd (show de.take k = de from List.take_of_length_le (by omega))
            clear hown hbel
            go_wp2
            go_meet
            case rel =>
              refine ⟨?_, HR.out.2⟩
              have := HR.out.1
              rwa [HT.out] at this
    case rest =>
      rename World => wa
      have HE := hcut
      clear hcut
      have HBA := hd HE.out.2
      have hbr : (rs ++ [(⟨nm, aa, an, ac, al, da, dn, dc, de⟩ : RIn)]).length = n + 1 := by simp [HLR.out]
      have HSMA : Hid (∀ r ∈ rs ++ [(⟨nm, aa, an, ac, al, da, dn, dc, de⟩ : RIn)], Small r) := fun r hr => by
        rcases List.mem_append.1 hr with h | h
        · exact HSMR.out r h
        · rw [List.mem_singleton] at h; rw [h]; exact HSMX.out
      obtain ⟨R, hR⟩ : ∃ R, R = rs ++ [(⟨nm, aa, an, ac, al, da, dn, dc, de⟩ : RIn)] := ⟨_, rfl⟩
      rw [← hR] at HRM HSMA hbr HM2
      have HRR := hd hR
      clear hR
      have HO0 := hd (ownSet_made wa)
      have HB0' : Hid (Below wa.heap.size wa (wa.alloc (.map #[] 0))) := (Below.refl _ _).alloc (Nat.le_refl _) _
      go_upto_block 2 with fail
      go_cut [15, 17] (fun _ _ wc => Hid (OwnSet wc wa.heap.size ((n + 1) * 1048576) (denials R) ∧ Below wa.heap.size wa wc))
      case first =>
        go_wp2_with fail
        go_loopw [15, 17, 79] (fun _ _ i wr => ∃ k : Nat, k ≤ n + 1 ∧ i = .int .i64 k ∧ OwnSet wr wa.heap.size (k * 1048576) (denials (R.take k)) ∧ Below wa.heap.size wa wr) (fun _ _ i _ => n + 1 - (intOf i).toNat)
        case atStart => exact ⟨0, Nat.zero_le _, rfl, by simpa [denials] using HO0.out, HB0'.out⟩
        case round =>
          obtain ⟨k, hk, rfl, hown, hbel⟩ := hrel
          by_cases hlt : k < n + 1
          · have d80 : decide ((k : Int) < (n : Int) + 1) = true := by simp; omega
            have hbr1 : Below w11.heap.size w11 wr := HBA.out.trans (hbel.mono HBA.out.size)
            obtain ⟨f0, f1, f2, hrk⟩ := roles_cells HRM.out wr hbr1 k hlt
            have hsk := HSMA.out _ (getD_mem (show k < R.length by omega))
            have hr11 := HRM.out.2.1 _ (getD_mem (show k < R.length by omega))
            have HDS := hd (denials_snoc R k (by omega))
            generalize R.getD k RIn.none = r at f0 f1 f2 hrk hsk HDS hr11
            obtain ⟨rnm, raa, ran, rac, ral, rda, rdn, rdc, rde⟩ := r
            simp only at f0 f1 f2 HDS
            have hba : Below wr.heap.size wr (wr.alloc (.cells #[.string rnm, .slice raa ran rac, .slice rda rdn rdc] 25)) := (Below.refl _ _).alloc (Nat.le_refl _) _
            have hdn : rdn ≤ 1048576 := hsk.2
            have hdl := hrk.2.2.2.2.1
            have hds := hrk.2.2.2.2.2.2.1
            have key := strs_key hr11.2.2.2.2
            simp only at hdl hds key
            have HO1 := hd (hown.of_block (hba.block _ hown.lt))
            have HB1 := hd (hbel.trans (hba.mono hbel.size))
            clear hrk hsk hba hown hbel hbr1 hr11
            rcases key with hn0 | ⟨hpos, b, off, rfl, hb, HC⟩
            all_goals
              go_wp2_with fail
              go_loopw [17, 86] (fun _ i wx => ∃ j : Nat, j ≤ rdn ∧ i = .int .i64 j ∧ OwnSet wx wa.heap.size (k * 1048576 + j) (keysOf (rde.take j) ++ denials (R.take k)) ∧ Below wa.heap.size wa wx) (fun _ i _ => rdn - (intOf i).toNat)
              case atStart => exact ⟨0, Nat.zero_le _, rfl, by simpa [keysOf] using HO1.out, HB1.out⟩
              case round =>
                obtain ⟨j, hj, rfl, hown, hbel⟩ := hrel
                by_cases hjl : j < rdn
                · try (exfalso; omega)
                  all_goals
                    have hc := HC.out wr (HBA.out.trans (hbel.mono HBA.out.size)) j hjl
                    have hss := getD_size hds j
                    have HKS := hd (keys_add rde j (by omega) (denials (R.take k)))
                    have HB := hd hbel
                    have HOW := hd hown
                    clear hbel hown
                    generalize rde.getD j ByteArray.empty = s at hc hss HKS
                    go_wp2_with (at_mapUpdate; refine wpList_add _ rfl _ _ _ rfl wa.heap.size (k * 1048576 + j) _ rfl HOW.out (by unfold maxLen; omega) s rfl rfl hss ?_; intro w1 hown1 hgrow1)
                    have HR := hd (And.intro ((hown1.mono (show k * 1048576 + j + 1 ≤ k * 1048576 + (j + 1) by omega)).congr HKS.out) (grown_map HB.out hgrow1 (Nat.le_refl _)))
                    clear hown1 hgrow1
                    go_wp2
                    go_roundw
                    case rel =>
                      first
                        | exact ⟨j + 1, by omega, by go_num, HR.out.1, HR.out.2⟩
                        | ((repeat apply Exists.intro); exact ⟨⟨j + 1, by omega, by go_num, HR.out.1, HR.out.2⟩, rfl⟩)
                    case measure => simp [intOf]; omega
                · have HT := hd (show rde.take j = rde from List.take_of_length_le (by omega))
                  have HR := hd (And.intro ((hown.mono (show k * 1048576 + j ≤ (k + 1) * 1048576 by omega)).congr (by rw [HT.out]; exact HDS.out)) hbel)
                  clear hown hbel
                  go_wp2
                  go_roundw
                  case rel => exact ⟨k + 1, by omega, by go_num, HR.out.1, HR.out.2⟩
                  case measure => simp [intOf]; omega
          · have HT := hd (show R.take k = R from List.take_of_length_le (by omega))
            have HR := hd (And.intro (hown.mono (show k * 1048576 ≤ (n + 1) * 1048576 by omega)) hbel)
            clear hown hbel
            go_wp2
            go_meet
            case rel =>
              refine ⟨?_, HR.out.2⟩
              have := HR.out.1
              rwa [HT.out] at this
      case rest =>
        rename World => wb
        have HDD := hcut
        clear hcut
        have HBB : Hid (Below w11.heap.size w11 wb) := HBA.out.trans (HDD.out.2.mono HBA.out.size)
        have HE1 := hd (HE.out.1.of_block (HDD.out.2.block _ HE.out.1.lt))
        have HLE := hd (show w11.heap.size < wb.heap.size from HE1.out.lt)
        have HLD := hd (show wa.heap.size < wb.heap.size from HDD.out.1.lt)
        have HO0 := hd (ownSet_made wb)
        have HB0' : Hid (Below wb.heap.size wb (wb.alloc (.map #[] 0))) := (Below.refl _ _).alloc (Nat.le_refl _) _
        go_upto_block 6 with fail
        go_cut [19, 21] (fun ct _ wc => ∃ W : List (List UInt8), ct = .int .i64 W.length ∧ Hid (W.Nodup ∧ (∀ l, l ∈ W ↔ l ∈ L1 ∧ l ∉ keysOf de) ∧ W.length ≤ 2199023255552 ∧ OwnSet wc wb.heap.size 2199023255552 W ∧ Below wb.heap.size wb wc))
        case first =>
          have key := HK1.out
          have HMX := hd HLI1.out.2.1
          rcases key with hn0 | ⟨hpos, b, rfl, hb, HC⟩
          all_goals
            go_wp2_with fail
            go_loopw [19, 21, 97] (fun ct _ i wr => ∃ (k : Nat) (W : List (List UInt8)), k ≤ L1.length ∧ i = .int .i64 k ∧ ct = .int .i64 W.length ∧ W.length ≤ k ∧ Hid (W.Nodup ∧ (∀ l, l ∈ W ↔ l ∈ L1.take k ∧ l ∉ keysOf de) ∧ OwnSet wr wb.heap.size k W ∧ Below wb.heap.size wb wr)) (fun _ _ i _ => L1.length - (intOf i).toNat)
            case atStart => exact ⟨0, [], Nat.zero_le _, rfl, rfl, Nat.le_refl _, List.nodup_nil, by simp, HO0.out, HB0'.out⟩
            case round =>
              obtain ⟨k, W, hk, rfl, rfl, hWk, HW⟩ := hrel
              by_cases hlt : k < L1.length
              · try (exfalso; omega)
                all_goals
                  have hc := HC.out wr (HBB.out.trans (HW.out.2.2.2.mono HBB.out.size)) k hlt
                  have hmem : L1.getD k [] ∈ L1 := by simp [List.getD, hlt]
                  have hsl := HMX.out _ hmem
                  have hfresh : decide (L1.getD k [] ∈ W) = false := by
                    simp only [decide_eq_false_iff_not]
                    exact fun h => rising_fresh HM1.out.1 hlt ((HW.out.2.1 _).1 h).1
                  have HTM := hd (fun l => take_mem hlt l)
                  have HEX := hd (HE1.out.of_block (HW.out.2.2.2.block _ HLE.out))
                  generalize L1.getD k [] = s at hc hmem hsl hfresh HTM
                  have HMEM := hd hmem
                  clear hmem
                  by_cases hde : s ∈ keysOf de
                  · have hlk1 := look_str HEX.out s hsl true (by simpa using hde)
                    have HDE := hd hde
                    clear hde hfresh
                    go_wp2
                    have HN := hd (show ∀ l, l ∈ W ↔ l ∈ L1.take (k + 1) ∧ l ∉ keysOf de from fun l => by
                      rw [HW.out.2.1 l, HTM.out l]
                      constructor
                      · rintro ⟨h1, h2⟩; exact ⟨.inr h1, h2⟩
                      · rintro ⟨h1 | h1, h2⟩
                        · exact absurd (h1 ▸ HDE.out) h2
                        · exact ⟨h1, h2⟩)
                    go_roundw
                    case rel => exact ⟨k + 1, W, by omega, by go_num, rfl, by omega, HW.out.1, HN.out, HW.out.2.2.1.mono (by omega), HW.out.2.2.2⟩
                    case measure => simp [intOf]; omega
                  · have hlk1 := look_str HEX.out s hsl false (by simpa using hde)
                    have hlk2 := look_str HW.out.2.2.1 s hsl false hfresh
                    have HDE := hd hde
                    have HFR := hd hfresh
                    clear hde hfresh
                    go_wp2_with (at_mapUpdate; refine wpList_add _ rfl _ _ _ rfl wb.heap.size k _ rfl HW.out.2.2.1 (by unfold maxLen; omega) ⟨s.toArray⟩ rfl rfl (by simpa [ByteArray.size] using hsl) ?_; intro w1 hown1 hgrow1)
                    have HN := hd (show (s :: W).Nodup ∧ (∀ l, l ∈ s :: W ↔ l ∈ L1.take (k + 1) ∧ l ∉ keysOf de) ∧ OwnSet w1 wb.heap.size (k + 1) (s :: W) ∧ Below wb.heap.size wb w1 from
                      ⟨List.nodup_cons.2 ⟨by simpa using HFR.out, HW.out.1⟩, fun l => by
                        rw [List.mem_cons, HW.out.2.1 l, HTM.out l]
                        constructor
                        · rintro (h1 | ⟨h1, h2⟩)
                          · exact ⟨.inl h1, h1 ▸ HDE.out⟩
                          · exact ⟨.inr h1, h2⟩
                        · rintro ⟨h1 | h1, h2⟩
                          · exact .inl h1
                          · exact .inr ⟨h1, h2⟩, by simpa using hown1, grown_map HW.out.2.2.2 hgrow1 (Nat.le_refl _)⟩)
                    clear hown1 hgrow1
                    go_wp2
                    go_roundw
                    case rel => exact ⟨k + 1, s :: W, by omega, by go_num, by go_num, by simp; omega, HN.out⟩
                    case measure => simp [intOf]; omega
              · have HT := hd (show L1.take k = L1 from List.take_of_length_le (by omega))
                go_wp2
                go_meet
                case rel =>
                  refine ⟨W, rfl, HW.out.1, fun l => ?_, by omega, HW.out.2.2.1.mono (by omega), HW.out.2.2.2⟩
                  rw [HW.out.2.1 l, HT.out]
        case rest =>
          rename World => wd
          obtain ⟨W1, rfl, HW1⟩ := hcut
          have hw1 : W1.length ≤ 2199023255552 := HW1.out.2.2.1
          have hbxn : wd.cell? ⟨w.heap.size, 0, none⟩ = some (.string nm) := HBXN.out _ (HBB.out.trans (HW1.out.2.2.2.2.mono HBB.out.size))
          have hbxa : wd.cell? ⟨w.heap.size, 1, none⟩ = some (.slice aa an ac) := HBXA.out _ (HBB.out.trans (HW1.out.2.2.2.2.mono HBB.out.size))
          go_upto_if 119 with fail
          go_cut [19, 23] (fun ct _ wc => ∃ W : List (List UInt8), ct = .int .i64 W.length ∧ Hid (W.Nodup ∧ (∀ l, l ∈ W ↔ (l ∈ L1 ∧ l ∉ keysOf de) ∨ ((nm.toList == pk.toList) = true ∧ l ∈ keysOf al ∧ l ∉ denials R)) ∧ OwnSet wc wb.heap.size 2199024304128 W ∧ Below wb.heap.size wb wc))
          case first =>
            by_cases hnp : (nm.toList == pk.toList) = true
            rotate_left
            · have hnp2 : (nm.toList == pk.toList) = false := by simpa using hnp
              clear hnp
              simp only [hnp2]
              go_wp2
              go_meet
              case rel => exact ⟨W1, rfl, HW1.out.1, fun l => by
                rw [HW1.out.2.1 l]
                constructor
                · exact .inl
                · rintro (h | h)
                  · exact h
                  · exact absurd h.1 (by first | (simp; done) | (rw [hnp2]; simp; done) | (exact fun e => by simp [e] at hnp2)), HW1.out.2.2.2.1.mono (by omega), HW1.out.2.2.2.2⟩
            simp only [hnp]
            have HNP := hd hnp
            clear hnp
            have han : an ≤ 1048576 := HSMX.out.1
            have hal := HXK.out.2.2.2.1.1
            have has := HXK.out.2.2.2.1.2.2.1
            have key := strs_key HXK.out.2.2.2.1
            simp only at hal has key
            rcases key with hn0 | ⟨hpos, b, off, rfl, hb, HC⟩
            all_goals
              go_wp2_with fail
              go_loopw [19, 23, 123] (fun ct _ i wr => ∃ (k : Nat) (W : List (List UInt8)), k ≤ an ∧ i = .int .i64 k ∧ ct = .int .i64 W.length ∧ W.length ≤ W1.length + k ∧ Hid (W.Nodup ∧ (∀ l, l ∈ W ↔ l ∈ W1 ∨ (l ∈ keysOf (al.take k) ∧ l ∉ denials R)) ∧ OwnSet wr wb.heap.size (2199023255552 + k) W ∧ Below wb.heap.size wb wr)) (fun _ _ i _ => an - (intOf i).toNat)
              case atStart => exact ⟨0, W1, Nat.zero_le _, rfl, rfl, Nat.le_refl _, HW1.out.1, by simp [keysOf], HW1.out.2.2.2.1.mono (by omega), HW1.out.2.2.2.2⟩
              case round =>
                obtain ⟨k, W, hk, rfl, rfl, hWk, HW⟩ := hrel
                by_cases hlt : k < an
                · try (exfalso; omega)
                  all_goals
                    have hc := HC.out wr (HBB.out.trans (HW.out.2.2.2.mono HBB.out.size)) k hlt
                    have hss := getD_size has k
                    have HTM := hd (fun l => keys_take (show k < al.length by omega) l)
                    have HDX := hd (HDD.out.1.of_block (HW.out.2.2.2.block _ HLD.out))
                    generalize al.getD k ByteArray.empty = s at hc hss HTM
                    by_cases hde : s.data.toList ∈ denials R
                    · have hlk1 := look_bytes HDX.out s hss true (by simpa using hde)
                      have HDE := hd hde
                      clear hde
                      go_wp2
                      have HN := hd (show ∀ l, l ∈ W ↔ l ∈ W1 ∨ (l ∈ keysOf (al.take (k + 1)) ∧ l ∉ denials R) from fun l => by
                        rw [HW.out.2.1 l, HTM.out l]
                        constructor
                        · rintro (h | ⟨h1, h2⟩)
                          · exact .inl h
                          · exact .inr ⟨.inr h1, h2⟩
                        · rintro (h | ⟨h1 | h1, h2⟩)
                          · exact .inl h
                          · exact absurd (h1 ▸ HDE.out) h2
                          · exact .inr ⟨h1, h2⟩)
                      go_roundw
                      case rel => exact ⟨k + 1, W, by omega, by go_num, rfl, by omega, HW.out.1, HN.out, HW.out.2.2.1.mono (by omega), HW.out.2.2.2⟩
                      case measure => simp [intOf]; omega
                    · have hlk1 := look_bytes HDX.out s hss false (by simpa using hde)
                      have HDE := hd hde
                      clear hde
                      by_cases hin : s.data.toList ∈ W
                      · have hlk2 := look_bytes HW.out.2.2.1 s hss true (by simpa using hin)
                        have HIN := hd hin
                        clear hin
                        go_wp2
                        have HN := hd (show ∀ l, l ∈ W ↔ l ∈ W1 ∨ (l ∈ keysOf (al.take (k + 1)) ∧ l ∉ denials R) from fun l => by
                          rw [HTM.out l]
                          constructor
                          · intro h0
                            rcases (HW.out.2.1 l).1 h0 with h | ⟨h1, h2⟩
                            · exact .inl h
                            · exact .inr ⟨.inr h1, h2⟩
                          · rintro (h | ⟨h1 | h1, h2⟩)
                            · exact (HW.out.2.1 l).2 (.inl h)
                            · rw [h1]; exact HIN.out
                            · exact (HW.out.2.1 l).2 (.inr ⟨h1, h2⟩))
                        go_roundw
                        case rel => exact ⟨k + 1, W, by omega, by go_num, rfl, by omega, HW.out.1, HN.out, HW.out.2.2.1.mono (by omega), HW.out.2.2.2⟩
                        case measure => simp [intOf]; omega
                      · have hlk2 := look_bytes HW.out.2.2.1 s hss false (by simpa using hin)
                        have HIN := hd hin
                        clear hin
                        go_wp2_with (at_mapUpdate; refine wpList_add _ rfl _ _ _ rfl wb.heap.size (2199023255552 + k) _ rfl HW.out.2.2.1 (by unfold maxLen; omega) s rfl rfl hss ?_; intro w1 hown1 hgrow1)
                        have HN := hd (show (s.data.toList :: W).Nodup ∧ (∀ l, l ∈ s.data.toList :: W ↔ l ∈ W1 ∨ (l ∈ keysOf (al.take (k + 1)) ∧ l ∉ denials R)) ∧ OwnSet w1 wb.heap.size (2199023255552 + (k + 1)) (s.data.toList :: W) ∧ Below wb.heap.size wb w1 from
                          ⟨List.nodup_cons.2 ⟨HIN.out, HW.out.1⟩, fun l => by
                            rw [List.mem_cons, HW.out.2.1 l, HTM.out l]
                            constructor
                            · rintro (h1 | h | ⟨h1, h2⟩)
                              · exact .inr ⟨.inl h1, h1 ▸ HDE.out⟩
                              · exact .inl h
                              · exact .inr ⟨.inr h1, h2⟩
                            · rintro (h | ⟨h1 | h1, h2⟩)
                              · exact .inr (.inl h)
                              · exact .inl h1
                              · exact .inr (.inr ⟨h1, h2⟩), hown1.mono (by omega), grown_map HW.out.2.2.2 hgrow1 (Nat.le_refl _)⟩)
                        clear hown1 hgrow1
                        go_wp2
                        go_roundw
                        case rel => exact ⟨k + 1, s.data.toList :: W, by omega, by go_num, by go_num, by simp; omega, HN.out⟩
                        case measure => simp [intOf]; omega
                · have HT := hd (show al.take k = al from List.take_of_length_le (by omega))
                  go_wp2
                  go_meet
                  case rel =>
                    refine ⟨W, rfl, HW.out.1, fun l => ?_, HW.out.2.2.1.mono (by omega), HW.out.2.2.2⟩
                    rw [HW.out.2.1 l, HW1.out.2.1 l, HT.out]
                    constructor
                    · rintro (h | h)
                      · exact .inl h
                      · exact .inr ⟨by first | rfl | exact HNP.out | simpa using HNP.out, h⟩
                    · rintro (h | h)
                      · exact .inl h
                      · exact .inr h.2
          case rest =>
            rename World => we
            obtain ⟨W, rfl, HW⟩ := hcut
            have HMM : Hid (∀ l, l ∈ L2 ↔ l ∈ W) := fun l => by
              rw [HM2.out.2 l, HW.out.2.1 l, HRR.out, one_more, HM1.out.2 l]
            have hlen : W.length = L2.length := (same_len (rising_nodup HM2.out.1) HW.out.1 HMM.out).symm
            have HRI := hd (risingWithin (HLI2.out.below (HBB.out.trans (HW.out.2.2.2.mono HBB.out.size))) HM2.out.1 wb.heap.size _ W HW.out.2.2.1 (fun l hl => (HMM.out l).1 hl))
            have HFI : Hid (∀ w', we.grownBy w' none → w.grownBy w' none) := fun w' h => HEND.out w' (HBW.out.trans ((HBB.out.trans ((HW.out.2.2.2.mono HBB.out.size).trans ((grown_below h).mono (Nat.le_trans HBB.out.size HW.out.2.2.2.size)))).mono (by have := HBW.out.size; omega)))
            clear hbxn hbxa
            simp only [hlen]
            go_wp2_with (go_at_call 9; refine HRI.out.mono ?_; rintro e w9 ⟨rfl, hg9⟩; have HG9 := hd hg9; clear hg9)
            go_ret
            exact ⟨by simp, HFI.out _ HG9.out⟩
end Go.Proofs.Qxb6618872a
