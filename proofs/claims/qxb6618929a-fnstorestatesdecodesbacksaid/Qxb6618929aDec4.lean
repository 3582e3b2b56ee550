/-
  zzDecString.
-/
import Derived.Test.Qxb6618929aDec3
import Derived.Test.Qxb6618929aStr2
import Derived.Lib.SlBytesRow
namespace Go.Proofs.Qxb6618929a
open Go Go.RowKit

/-- A string was appended: the new row is laid into the box. -/
theorem Dec.putS {w w1 : World} {s : Nat} {R : Nat → Prop} {out : List UInt8} {p : Nat} {ts : List (List UInt8)} {bv sv v : Value} {t : List UInt8} (h : Dec w s R out p ts bv sv)
    (ho : w1.ownsRow 0 9 1 v (ts.length + 1) (ts.map encS ++ [encS t])) (hg : w.grownBy w1 sv.ownBlock) (hm : Moved w sv v) :
    w1.heap[s]? = some (.cells #[bv, .int .i64 p, sv, .bool true] 45 (0, 0)) ∧ Dec (w1.setCell ⟨s, 2, none⟩ v) s R out p (ts ++ [t]) bv v ∧ Fr R w (w1.setCell ⟨s, 2, none⟩ v) := by
  have hs1 : w1.heap[s]? = some (.cells #[bv, .int .i64 p, sv, .bool true] 45 (0, 0)) := (hg.block s h.lt (fun e => own_ne h.strs h.box (by decide) e.symm)).trans h.box
  have hset : ∀ k, k ≠ s → (w1.setCell ⟨s, 2, none⟩ v).heap[k]? = w1.heap[k]? := fun k hk => Below.heap_setCell _ _ _ _ hk
  have hsz : (w1.setCell ⟨s, 2, none⟩ v).heap.size = w1.heap.size := by simp [World.setCell]
  have hfr : ∀ k, R k → (w1.setCell ⟨s, 2, none⟩ v).heap[k]? = w.heap[k]? := fun k hk => by
    rw [hset k (fun e => h.here (e ▸ hk)), hg.block k (h.base k hk) (fun e => h.sat k e.symm hk)]
  refine ⟨hs1, ⟨by simpa using heap_setCell_same w1 s 2 _ 45 v hs1, h.bytes.kept hfr, ?_, ?_, h.here, fun k hk => by rw [hsz]; exact Nat.lt_of_lt_of_le (h.base k hk) hg.size⟩, hg.os, hg.tape, hg.output, by rw [hsz]; exact hg.size, hfr⟩
  · have : w1.ownsRow 0 9 1 v (ts ++ [t]).length ((ts ++ [t]).map encS) := by simpa using ho
    exact own_kept this (fun k hk => hset k (fun e => own_ne ho hs1 (by decide) (e ▸ hk)))
  · intro k hk hn
    rcases hm with hm | hm
    · exact h.sat k (hm ▸ hk) hn
    · have := hm k hk; have := h.base k hn; omega

theorem d_str_known (s : Nat) (R : Nat → Prop) (out : List UInt8) (p : Nat) (ts : List (List UInt8)) (bv sv : Value) (t : List UInt8) (i : Nat) (rest : List UInt8) (w : World) (h : Dec w s R out p ts bv sv) (hout : out.length ≤ 140737489403904) (hn : ts.length ≤ 1073741824)
    (hi : ts[i]? = some t) (hc : out.drop p = Lib.uvarint i ++ rest) :
    Calls Try.prog 28 #[.pointer (some ⟨s, 0, none⟩)] w fun e w' => e = .returned (encS t) ∧ DecTo s R w out (p + (Lib.uvarint i).length) ts bv w' := by
  have hlt : i < ts.length := (List.getElem?_eq_some_iff.1 hi).1
  have C := hd (d_uvarint s R out p ts bv sv i rest w h hout (by omega) hc)
  have HI := hd hi
  clear h hc hi
  go_enter Try.func28, Try.ntmps28
  go_wp2_with (go_at_call 41; refine C.out.mono ?_; rintro e w' ⟨rfl, ⟨sv', g1⟩, g2⟩; obtain ⟨b0, b1, b2, b3, f1, f2⟩ := g1.cells; obtain ⟨g', cap', hsv, _⟩ := g1.strs.form (by omega); have hcell : w'.cell? ⟨g', i, none⟩ = some (.string ⟨t.toArray⟩) := (by have hss := g1.strs; rw [hsv] at hss; rw [hss.cellAt i (by simpa using hlt), List.getElem?_map, HI.out]; rfl); have HG := hd (And.intro g1 g2); clear g1 g2 b0 b1 f1 f2; subst hsv)
  go_ret
  exact ⟨rfl, ⟨_, HG.out.1⟩, HG.out.2⟩

set_option maxRecDepth 100000 in
/-- 'string(b[q:q+n])'. -/
theorem conv_at {w : World} {R : Nat → Prop} {out t rest : List UInt8} {b off cap q : Nat} (h : RowAt w R (.slice (some ⟨b, off, none⟩) out.length cap) out) (hq : out.drop q = t ++ rest) (h0 : 0 < t.length) (c m : Nat) :
    (convert 36 9 (.slice (some ⟨b, off + q, none⟩) t.length c)).run Try.prog (w.drewN m) = .ok (.string ⟨t.toArray⟩) (w.drewN m) := by
  have hlen : q + t.length ≤ out.length := by
    have := congrArg List.length hq
    simp only [List.length_drop, List.length_append] at this
    omega
  obtain ⟨ao, cap', h1, h2⟩ := h
  obtain rfl : some ⟨b, off, none⟩ = ao := by injection h1
  rcases h2 with h2 | ⟨_, b', off', q1, _, h5⟩
  · omega
  injection q1 with q1
  injection q1 with q1 q2
  subst q1 q2
  refine (run_convert_bytes_arg (P := Try.prog) (w.drewN m) 36 5 Try.underlying36 Try.underlying5 b (off + q) t.length c (t.map fun x => (x.toNat : Int)) (by simp) (fun i hi => ?_) 9 Try.underlying9).trans ?_
  rotate_left
  · have e : strOfNums (t.map fun x => (x.toNat : Int)) = ⟨t.toArray⟩ := by
      unfold strOfNums
      rw [List.map_map, show ((fun n : Int => UInt8.ofNat n.toNat) ∘ fun x : UInt8 => (x.toNat : Int)) = id from funext fun x => by simp, List.map_id]
    rw [e]
  · have hc := h5.out (q + i) (by omega)
    have e : out.getD (q + i) 0 = t.getD i 0 := by
      have h3 : (out.drop q).getD i 0 = t.getD i 0 := by rw [hq]; simp [List.getD, List.getElem?_append_left hi]
      rw [← h3]
      simp [List.getD]
    rw [Nat.add_assoc]
    show w.cell? _ = _
    rw [hc, e]
    simp [List.getD, hi]

theorem conv_zero (w : World) (a : Option Addr) (c m : Nat) : (convert 36 9 (.slice a 0 c)).run Try.prog (w.drewN m) = .ok (.string ⟨#[]⟩) (w.drewN m) := by
  rw [run_convert_bytes_string (w.drewN m) 36 9 5 a 0 c Try.underlying36 Try.underlying5 Try.underlying9]
  cases a <;> simp [Conv.bytesToString, loadCells]
  all_goals rfl

/-- A slice is no longer than her room. -/
def Room (v : Value) : Prop := ∀ a n c, v = .slice a n c → n ≤ c

set_option maxRecDepth 100000 in
set_option maxHeartbeats 40000000 in
theorem d_str_new (s : Nat) (R : Nat → Prop) (out : List UInt8) (p : Nat) (ts : List (List UInt8)) (bv sv : Value) (t : List UInt8) (rest : List UInt8) (w : World) (h : Dec w s R out p ts bv sv) (hout : out.length ≤ 140737489403904) (hroom : Room bv) (hn : ts.length ≤ 1073741824)
    (hi : ∀ u ∈ ts, u ≠ t) (hc : out.drop p = Lib.uvarint ts.length ++ (Lib.uvarint t.length ++ (t ++ rest))) (h0 : 0 < t.length) :
    Calls Try.prog 28 #[.pointer (some ⟨s, 0, none⟩)] w fun e w' => e = .returned (.string ⟨t.toArray⟩) ∧ DecTo s R w out (p + (Lib.uvarint ts.length).length + (Lib.uvarint t.length).length + t.length) (ts ++ [t]) bv w' := by
  obtain ⟨i9, hi9, hy0, hy1, hy2⟩ := info_parts Try.info9
  have hc1 : out.drop (p + (Lib.uvarint ts.length).length) = Lib.uvarint t.length ++ (t ++ rest) := by rw [← List.drop_drop, hc, List.drop_left]
  have hc2 : out.drop (p + (Lib.uvarint ts.length).length + (Lib.uvarint t.length).length) = t ++ rest := by rw [← List.drop_drop, hc1, List.drop_left]
  have hlt : p + (Lib.uvarint ts.length).length + (Lib.uvarint t.length).length + t.length ≤ out.length := by
    have h1 := congrArg List.length hc2
    have h2 := congrArg List.length hc1
    have h3 := congrArg List.length hc
    have := uvarint_pos ts.length
    simp only [List.length_drop, List.length_append] at h1 h2 h3
    omega
  have hl1 := uvarint_pos ts.length
  have C := hd (d_uvarint s R out p ts bv sv ts.length _ w h hout (by omega) hc)
  obtain ⟨ao, cap, hbv, h2⟩ := h.bytes
  rcases h2 with h2 | ⟨_, b, off, rfl, hRb, _⟩
  · omega
  subst hbv
  have hcap : out.length ≤ cap := hroom _ _ _ rfl
  have HC1 := hd hc1
  have HC2 := hd hc2
  have HI := hd hi
  clear h hc hc1 hc2 hi hroom
  generalize hp1 : p + (Lib.uvarint ts.length).length = p1 at *
  generalize hp2 : p1 + (Lib.uvarint t.length).length = p2 at *
  have HP2 := hd hp2
  clear hp1 hp2 hl1
  have hq2 : p2 ≤ cap := by omega
  have hq3 : p2 + t.length ≤ cap := by omega
  go_enter Try.func28, Try.ntmps28
  go_wp2_with (first
    | (go_at_call 41; refine C2.out.mono ?_; rintro e w2 ⟨rfl, ⟨sv2, g1⟩, g2⟩; obtain ⟨b0, b1, b2, b3, f1, f2⟩ := g1.cells; have HG2 := hd (And.intro g1 (HG1.out.trans g2)); obtain ⟨a2, cap2, hsv2⟩ := own_slice g1.strs; clear g1 g2 k2 k3; subst hsv2)
    | (go_at_call 41; refine C.out.mono ?_; rintro e w1 ⟨rfl, ⟨sv1, g1⟩, g2⟩; obtain ⟨k0, k1, k2, k3, f1, f2⟩ := g1.cells; obtain ⟨g', cap', hsv⟩ := own_slice g1.strs; have C2 := hd (d_uvarint s R out p1 ts _ sv1 t.length _ w1 g1 hout (by omega) HC1.out); rw [HP2.out] at C2; have HG1 := hd g2; clear g1 g2 k0 k1 f1 f2; subst hsv))
  have d1 : decide ((out.length : Int) - (p2 : Int) < (t.length : Int)) = false := by simp; omega
  go_quiet (fail)
  go_wp2
  have hconv := conv_at HG2.out.1.bytes HC2.out h0
  go_quiet (fail)
  all_goals
    have hfin : Hid (∀ m, Dec ((w2.drewN m).setCell ⟨s, 1, none⟩ (.int .i64 ((p2 : Int) + (t.length : Int)))) s R out (p2 + t.length) ts (.slice (some ⟨b, off, none⟩) out.length cap) (.slice a2 ts.length cap2) ∧ Fr R w ((w2.drewN m).setCell ⟨s, 1, none⟩ (.int .i64 ((p2 : Int) + (t.length : Int))))) := fun m =>
      have h := (HG2.out.1.drewN m).move (p2 + t.length)
      ⟨h.1, (HG2.out.2.drewN m).trans h.2⟩
    clear hconv
    go_upto_region 15 with fail
    generalize hW3 : (w2.drewN _).setCell ⟨s, 1, none⟩ (.int .i64 ((p2 : Int) + (t.length : Int))) = W3
    have HD3 : Hid (Dec W3 s R out (p2 + t.length) ts (.slice (some ⟨b, off, none⟩) out.length cap) (.slice a2 ts.length cap2) ∧ Fr R w W3) := by
      rw [← hW3]
      exact hfin.out _
    clear hfin hW3 HG2 b0 b1 b2 b3 f1 f2 C C2 HG1
    obtain ⟨b0, b1, b2, b3, f1, f2⟩ := HD3.out.1.cells
    clear b0 b1 f1
    have HOW := hd (HD3.out.1.strs.alloc (.cells #[.string ⟨t.toArray⟩] 9))
    go_wp2
    go_loop [6, 96] (fun _ i => ∃ j : Nat, j ≤ ts.length ∧ i = .int .i64 j) (fun _ i => ts.length - (intOf i).toNat)
    case atStart => exact ⟨0, Nat.zero_le _, rfl⟩
    case round =>
      obtain ⟨j, hj, rfl⟩ := hrel
      by_cases hjl : j < ts.length
      · obtain ⟨g2, cap2', hsv, _⟩ := HD3.out.1.strs.form (by omega)
        obtain ⟨rfl, rfl⟩ : a2 = some ⟨g2, 0, none⟩ ∧ cap2 = cap2' := by injection hsv with h1 h2 h3; exact ⟨h1, h3⟩
        have hu : ts[j]? = some ts[j] := List.getElem?_eq_getElem hjl
        have hcell : W3.cell? ⟨g2, j, none⟩ = some (.string ⟨ts[j].toArray⟩) := by
          rw [HD3.out.1.strs.cellAt j (by simpa using hjl), List.getElem?_map, hu]
          rfl
        have hne : (ts[j] == t) = false := by
          have := HI.out ts[j] (List.getElem_mem hjl)
          simpa using this
        generalize ts[j] = u at hcell hne
        clear hsv hu
        go_wp2
        go_round
        case rel => exact ⟨j + 1, by omega, by go_num⟩
        case measure => simp [intOf]; omega
      · obtain rfl : j = ts.length := by omega
        go_wp2_with (at_builtin; (refine wpList_append_lies _ rfl _ _ 22 rfl 0 9 i9 (.string ⟨#[]⟩) 1 16 Try.underlying22 hi9 hy0 hy1 hy2 rfl (by decide) _ _ _ rfl HOW.out ⟨W3.heap.size, 0, none⟩ 1 1 [Value.string ⟨t.toArray⟩] rfl rfl ?c1 ?c2 (by decide) ?c3 ?c4 (Nat.zero_le _) (W3.heap.size + 1) ?c5 ?_; (case c1 => exact cell_one_new _ _ _); (case c2 => (intro u hu; simp at hu; subst hu; rfl)); (case c3 => (unfold maxLen; omega)); (case c4 => omega); (case c5 => simp); intro g5 cap5 w5 hown5 hgrow5 hat5 hlt5; obtain ⟨q1, q2⟩ := put_oneS rfl rfl hgrow5 hat5 rfl; obtain ⟨hs5, hst5, hfr5⟩ := HD3.out.1.putS (t := t) hown5 q1 q2; have hc5 := cell_of_row w5 s 2 _ 45 (0, 0) hs5; have hf5 := frozen_of_row w5 s 2 _ 45 hs5; have HR5 := hd (And.intro hst5 hfr5); clear hown5 hgrow5 hat5 q1 q2 hs5 hst5 hfr5))
        go_ret
        exact ⟨rfl, ⟨_, HR5.out.1⟩, HD3.out.2.trans HR5.out.2⟩

set_option maxRecDepth 100000 in
set_option maxHeartbeats 40000000 in
theorem d_str_nil (s : Nat) (R : Nat → Prop) (out : List UInt8) (p : Nat) (ts : List (List UInt8)) (bv sv : Value) (rest : List UInt8) (w : World) (h : Dec w s R out p ts bv sv) (hout : out.length ≤ 140737489403904) (hroom : Room bv) (hn : ts.length ≤ 1073741824)
    (hi : ∀ u ∈ ts, u ≠ []) (hc : out.drop p = Lib.uvarint ts.length ++ (Lib.uvarint 0 ++ ([] ++ rest))) :
    Calls Try.prog 28 #[.pointer (some ⟨s, 0, none⟩)] w fun e w' => e = .returned (.string ⟨#[]⟩) ∧ DecTo s R w out (p + (Lib.uvarint ts.length).length + (Lib.uvarint 0).length) (ts ++ [[]]) bv w' := by
  obtain ⟨i9, hi9, hy0, hy1, hy2⟩ := info_parts Try.info9
  have hc1 : out.drop (p + (Lib.uvarint ts.length).length) = Lib.uvarint 0 ++ ([] ++ rest) := by rw [← List.drop_drop, hc, List.drop_left]
  have hc2 : out.drop (p + (Lib.uvarint ts.length).length + (Lib.uvarint 0).length) = [] ++ rest := by rw [← List.drop_drop, hc1, List.drop_left]
  have hlt : p + (Lib.uvarint ts.length).length + (Lib.uvarint 0).length ≤ out.length := by
    have h1 := congrArg List.length hc2
    have h2 := congrArg List.length hc1
    have h3 := congrArg List.length hc
    have := uvarint_pos ts.length
    simp only [List.length_drop, List.length_append, List.length_nil] at h1 h2 h3
    omega
  have hl1 := uvarint_pos ts.length
  have C := hd (d_uvarint s R out p ts bv sv ts.length _ w h hout (by omega) hc)
  obtain ⟨ao, cap, hbv, h2⟩ := h.bytes
  rcases h2 with h2 | ⟨_, b, off, rfl, hRb, _⟩
  · omega
  subst hbv
  have hcap : out.length ≤ cap := hroom _ _ _ rfl
  have HC1 := hd hc1
  have HC2 := hd hc2
  have HI := hd hi
  clear h hc hc1 hc2 hi hroom
  generalize hp1 : p + (Lib.uvarint ts.length).length = p1 at *
  generalize hp2 : p1 + (Lib.uvarint 0).length = p2 at *
  have HP2 := hd hp2
  clear hp1 hp2 hl1
  have hq2 : p2 ≤ cap := by omega
  have hcc : p2 < cap ∨ cap ≤ p2 := by omega
  rcases hcc with hcc | hcc
  all_goals
    go_enter Try.func28, Try.ntmps28
    go_wp2_with (first
      | (go_at_call 41; refine C2.out.mono ?_; rintro e w2 ⟨rfl, ⟨sv2, g1⟩, g2⟩; obtain ⟨b0, b1, b2, b3, f1, f2⟩ := g1.cells; have HG2 := hd (And.intro g1 (HG1.out.trans g2)); obtain ⟨a2, cap2, hsv2⟩ := own_slice g1.strs; clear g1 g2 k2 k3; subst hsv2)
      | (go_at_call 41; refine C.out.mono ?_; rintro e w1 ⟨rfl, ⟨sv1, g1⟩, g2⟩; obtain ⟨k0, k1, k2, k3, f1, f2⟩ := g1.cells; obtain ⟨g', cap', hsv⟩ := own_slice g1.strs; have C2 := hd (d_uvarint s R out p1 ts _ sv1 0 _ w1 g1 hout (by omega) HC1.out); rw [HP2.out] at C2; have HG1 := hd g2; clear g1 g2 k0 k1 f1 f2; subst hsv))
    have d1 : decide ((out.length : Int) - (p2 : Int) < 0) = false := by simp; omega
    go_quiet (fail)
    go_wp2
    have hconv := conv_zero w2
    go_quiet (fail)
    have hfin : Hid (∀ m, Dec ((w2.drewN m).setCell ⟨s, 1, none⟩ (.int .i64 ((p2 : Int)))) s R out (p2) ts (.slice (some ⟨b, off, none⟩) out.length cap) (.slice a2 ts.length cap2) ∧ Fr R w ((w2.drewN m).setCell ⟨s, 1, none⟩ (.int .i64 ((p2 : Int))))) := fun m =>
      have h := (HG2.out.1.drewN m).move (p2)
      ⟨h.1, (HG2.out.2.drewN m).trans h.2⟩
    clear hconv
    go_upto_region 15 with fail
    generalize hW3 : (w2.drewN _).setCell ⟨s, 1, none⟩ (.int .i64 ((p2 : Int))) = W3
    have HD3 : Hid (Dec W3 s R out (p2) ts (.slice (some ⟨b, off, none⟩) out.length cap) (.slice a2 ts.length cap2) ∧ Fr R w W3) := by
      rw [← hW3]
      exact hfin.out _
    clear hfin hW3 HG2 b0 b1 b2 b3 f1 f2 C C2 HG1
    obtain ⟨b0, b1, b2, b3, f1, f2⟩ := HD3.out.1.cells
    clear b0 b1 f1
    have HOW := hd (HD3.out.1.strs.alloc (.cells #[.string ⟨#[]⟩] 9))
    go_wp2
    go_loop [6, 96] (fun _ i => ∃ j : Nat, j ≤ ts.length ∧ i = .int .i64 j) (fun _ i => ts.length - (intOf i).toNat)
    case atStart => exact ⟨0, Nat.zero_le _, rfl⟩
    case round =>
      obtain ⟨j, hj, rfl⟩ := hrel
      by_cases hjl : j < ts.length
      · obtain ⟨g2, cap2', hsv, _⟩ := HD3.out.1.strs.form (by omega)
        obtain ⟨rfl, rfl⟩ : a2 = some ⟨g2, 0, none⟩ ∧ cap2 = cap2' := by injection hsv with h1 h2 h3; exact ⟨h1, h3⟩
        have hu : ts[j]? = some ts[j] := List.getElem?_eq_getElem hjl
        have hcell : W3.cell? ⟨g2, j, none⟩ = some (.string ⟨ts[j].toArray⟩) := by
          rw [HD3.out.1.strs.cellAt j (by simpa using hjl), List.getElem?_map, hu]
          rfl
        have hne : (ts[j] == []) = false := by
          have := HI.out ts[j] (List.getElem_mem hjl)
          simpa using this
        generalize ts[j] = u at hcell hne
        clear hsv hu
        go_wp2
        go_round
        case rel => exact ⟨j + 1, by omega, by go_num⟩
        case measure => simp [intOf]; omega
      · obtain rfl : j = ts.length := by omega
        go_wp2_with (at_builtin; (refine wpList_append_lies _ rfl _ _ 22 rfl 0 9 i9 (.string ⟨#[]⟩) 1 16 Try.underlying22 hi9 hy0 hy1 hy2 rfl (by decide) _ _ _ rfl HOW.out ⟨W3.heap.size, 0, none⟩ 1 1 [Value.string ⟨#[]⟩] rfl rfl ?c1 ?c2 (by decide) ?c3 ?c4 (Nat.zero_le _) (W3.heap.size + 1) ?c5 ?_; (case c1 => exact cell_one_new _ _ _); (case c2 => (intro u hu; simp at hu; subst hu; rfl)); (case c3 => (unfold maxLen; omega)); (case c4 => omega); (case c5 => simp); intro g5 cap5 w5 hown5 hgrow5 hat5 hlt5; obtain ⟨q1, q2⟩ := put_oneS rfl rfl hgrow5 hat5 rfl; obtain ⟨hs5, hst5, hfr5⟩ := HD3.out.1.putS (t := []) hown5 q1 q2; have hc5 := cell_of_row w5 s 2 _ 45 (0, 0) hs5; have hf5 := frozen_of_row w5 s 2 _ 45 hs5; have HR5 := hd (And.intro hst5 hfr5); clear hown5 hgrow5 hat5 q1 q2 hs5 hst5 hfr5))
        go_ret
        exact ⟨rfl, ⟨_, HR5.out.1⟩, HD3.out.2.trans HR5.out.2⟩

theorem d_string (s : Nat) (R : Nat → Prop) (out : List UInt8) (p : Nat) (ts : List (List UInt8)) (bv sv : Value) (t : List UInt8) (rest : List UInt8) (w : World) (h : Dec w s R out p ts bv sv) (hout : out.length ≤ 140737489403904) (hroom : Room bv) (hn : ts.length ≤ 1073741824)
    (hc : out.drop p = (putStr t ([], ts)).1 ++ rest) :
    Calls Try.prog 28 #[.pointer (some ⟨s, 0, none⟩)] w fun e w' => e = .returned (encS t) ∧ DecTo s R w out (p + (putStr t ([], ts)).1.length) (putStr t ([], ts)).2 bv w' := by
  unfold putStr at hc ⊢
  simp only at hc ⊢
  cases hf : ts.findIdx? (· == t) with
  | some i =>
    rw [hf] at hc
    simp only [putU, List.nil_append] at hc ⊢
    obtain ⟨h1, h2, _⟩ := List.findIdx?_eq_some_iff_getElem.1 hf
    refine d_str_known s R out p ts bv sv t i rest w h hout hn ?_ hc
    rw [List.getElem?_eq_getElem h1]
    simpa using h2
  | none =>
    rw [hf] at hc
    simp only [List.nil_append, List.append_assoc] at hc ⊢
    have hi : ∀ u ∈ ts, u ≠ t := fun u hu e => by
      have := List.findIdx?_eq_none_iff.1 hf u hu
      simp [e] at this
    by_cases h0 : 0 < t.length
    · refine (d_str_new s R out p ts bv sv t rest w h hout hroom hn hi hc h0).mono ?_
      rintro e w' ⟨rfl, hg⟩
      refine ⟨rfl, ?_⟩
      simpa only [List.length_append, Nat.add_assoc] using hg
    · obtain rfl : t = [] := List.eq_nil_of_length_eq_zero (by omega)
      refine (d_str_nil s R out p ts bv sv rest w h hout hroom hn hi hc).mono ?_
      rintro e w' ⟨rfl, hg⟩
      refine ⟨rfl, ?_⟩
      simpa only [List.length_append, Nat.add_assoc, List.length_nil, Nat.add_zero] using hg
end Go.Proofs.Qxb6618929a
