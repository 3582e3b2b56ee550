/-
  zzBuildPolicy: the walk.
-/
import Derived.Test.Qxb6618872aBuild
import Derived.Test.Qxb6618872aBytes
namespace Go.Proofs.Qxb6618872a
open Go Go.RowKit

theorem owns_block {w w' : World} {base e size g n cap : Nat} {xs : List Value} (h : w.ownsRow base e size (.slice (some ⟨g, 0, none⟩) n cap) n xs) (hb : w'.heap[g]? = w.heap[g]?) : w'.ownsRow base e size (.slice (some ⟨g, 0, none⟩) n cap) n xs := by
  obtain ⟨h1, h2⟩ := h
  refine ⟨h1, ?_⟩
  rcases h2 with h2 | ⟨g', cap', cur, hv, hbg, hg, hnc, hcm, hcs, htake⟩
  · exact .inl h2
  · cases hv
    exact .inr ⟨g, cap, cur, rfl, hbg, hb.trans hg, hnc, hcm, hcs, htake⟩
theorem owns_lt {w : World} {base e size g n cap : Nat} {xs : List Value} (h : w.ownsRow base e size (.slice (some ⟨g, 0, none⟩) n cap) n xs) : g < w.heap.size := by
  rcases h.2 with ⟨h0, _⟩ | ⟨g', cap', cur, hv, hbg, hg, hnc, hcm, hcs, htake⟩
  · cases h0
  · cases hv
    rcases Nat.lt_or_ge g w.heap.size with hlt | hge
    · exact hlt
    · rw [Array.getElem?_eq_none hge] at hg; cases hg

theorem grown_below {w w' : World} (h : w.grownBy w' none) : Below w.heap.size w w' := (Below.refl _ _).grown h (Nat.le_refl _) (fun j h => by cases h)
theorem below_grown {w w' : World} (h : Below w.heap.size w w') : w.grownBy w' none := ⟨h.os, h.tape, h.output, h.size, fun k hk _ => h.block k hk⟩

/-- The two maps lie behind block g. -/
def Far (g : Nat) (c : CR) : Prop := (∀ b, c.a = some b → g < b) ∧ ∀ b, c.d = some b → g < b
theorem SetV.kept {w w' : World} {p : Option Nat} {n : Nat} {S} {g : Nat} (h : SetV w p n S) (hg : w.grownBy w' (some g)) (hf : ∀ b, p = some b → g < b) : SetV w' p n S := by
  rcases h with h | ⟨b, h1, h2⟩
  · exact .inl h
  · exact .inr ⟨b, h1, h2.kept hg (fun e => by have := hf b h1; have := Option.some.inj e; omega)⟩

theorem build_round {w wr w1 w2 w4 : World} {n k : Nat} {rs : List RIn} {ms : List CR} {r : RIn} {p1 p2 : Option Nat} {blk o1 o2 : Obj}
    (hr : r = rs.getD k RIn.none) (hms : ms.length = k) (hg : w.grownBy wr none) (hlt : w.heap.size < wr.heap.size)
    (hcomp : ∀ j, j < k → Comp wr (rs.getD j RIn.none) (ms.getD j CR.none)) (hfar : ∀ j, j < k → Far w.heap.size (ms.getD j CR.none))
    (hp1 : SetV w1 p1 r.an (keysOf r.al)) (hg1 : (wr.alloc blk).drew.grownBy w1 none) (hf1 : ∀ b, p1 = some b → wr.heap.size < b)
    (hp2 : SetV w2 p2 r.dn (keysOf r.de)) (hg2 : w1.grownBy w2 none) (hf2 : ∀ b, p2 = some b → wr.heap.size < b)
    (hown4 : w4.ownsRow w.heap.size 56 30 (.slice (some ⟨w.heap.size, 0, none⟩) (k + 1) n) (k + 1) (ms.flatMap CR.cells ++ (cells56 r.name p1 p2).toList))
    (hgrow4 : ((w2.alloc o1).alloc o2).grownBy w4 (some w.heap.size)) :
    (ms ++ [CR.mk r.name p1 p2]).length = k + 1 ∧ w4.ownsRow w.heap.size 56 30 (.slice (some ⟨w.heap.size, 0, none⟩) (k + 1) n) (k + 1) ((ms ++ [CR.mk r.name p1 p2]).flatMap CR.cells) ∧ w.grownBy w4 none ∧
      (∀ j, j < k + 1 → Comp w4 (rs.getD j RIn.none) ((ms ++ [CR.mk r.name p1 p2]).getD j CR.none)) ∧ ∀ j, j < k + 1 → Far w.heap.size ((ms ++ [CR.mk r.name p1 p2]).getD j CR.none) := by
  have b1 : Below w1.heap.size w1 w2 := grown_below hg2
  have b2 : Below w2.heap.size w2 ((w2.alloc o1).alloc o2) := ((Below.refl _ _).alloc (Nat.le_refl _) _).alloc (by simp) _
  have b0 : Below wr.heap.size wr w1 := ((Below.refl _ _).alloc (Nat.le_refl _) _).drew.trans ((grown_below hg1).mono (by simp [World.drew]))
  have s01 : wr.heap.size ≤ w1.heap.size := b0.size
  have s12 : w1.heap.size ≤ w2.heap.size := b1.size
  have b02 : Below wr.heap.size wr ((w2.alloc o1).alloc o2) := b0.trans ((b1.mono s01).trans (b2.mono (Nat.le_trans s01 s12)))
  have hgw : w.grownBy w4 none := by
    have h1 := grown_below hg
    have h2 : Below w.heap.size w ((w2.alloc o1).alloc o2) := h1.trans (b02.mono (Nat.le_of_lt hlt))
    exact ⟨hgrow4.os.trans h2.os, hgrow4.tape.trans h2.tape, hgrow4.output.trans h2.output, Nat.le_trans h2.size hgrow4.size, fun j hj _ => (hgrow4.block j (Nat.lt_of_lt_of_le hj h2.size) (fun e => by have := Option.some.inj e; omega)).trans (h2.block j hj)⟩
  have hin : ∀ j, j < k → (ms ++ [(⟨r.name, p1, p2⟩ : CR)]).getD j CR.none = ms.getD j CR.none := fun j hj => by
    simp only [List.getD, List.getElem?_append_left (show j < ms.length by omega)]
  have hat : (ms ++ [(⟨r.name, p1, p2⟩ : CR)]).getD k CR.none = ⟨r.name, p1, p2⟩ := by
    subst hms; simp [List.getD]
  refine ⟨by simp [hms], ?_, hgw, fun j hj => ?_, fun j hj => ?_⟩
  · rw [List.flatMap_append]
    simpa [CR.cells] using hown4
  · by_cases e : j = k
    · subst e
      rw [hat, ← hr]
      refine ⟨rfl, ?_, ?_⟩
      · exact ((hp1.below b1).below b2).kept hgrow4 (fun b hb => Nat.lt_trans hlt (hf1 b hb))
      · exact (hp2.below b2).kept hgrow4 (fun b hb => Nat.lt_trans hlt (hf2 b hb))
    · rw [hin j (by omega)]
      have hc := hcomp j (by omega)
      have hf := hfar j (by omega)
      exact ⟨hc.1, (hc.2.1.below b02).kept hgrow4 hf.1, (hc.2.2.below b02).kept hgrow4 hf.2⟩
  · by_cases e : j = k
    · subst e
      rw [hat]
      exact ⟨fun b hb => Nat.lt_trans hlt (hf1 b hb), fun b hb => Nat.lt_trans hlt (hf2 b hb)⟩
    · rw [hin j (by omega)]
      exact hfar j (by omega)

theorem pol_made {w wr : World} {n k : Nat} {rs : List RIn} {ms : List CR} (hl : rs.length = n) (hk : ¬ k < n) (hkn : k ≤ n) (hms : ms.length = k)
    (hown : wr.ownsRow w.heap.size 56 30 (.slice (some ⟨w.heap.size, 0, none⟩) k n) k (ms.flatMap CR.cells)) (hg : w.grownBy wr none)
    (hcomp : ∀ j, j < k → Comp wr (rs.getD j RIn.none) (ms.getD j CR.none)) :
    PolAt (wr.alloc (.cells #[.slice (some ⟨w.heap.size, 0, none⟩) k n] 63)) (.pointer (some ⟨wr.heap.size, 0, none⟩)) rs ∧ w.grownBy (wr.alloc (.cells #[.slice (some ⟨w.heap.size, 0, none⟩) k n] 63)) none := by
  have hkn' : k = n := by omega
  subst hkn'
  have hb : Below wr.heap.size wr (wr.alloc (.cells #[.slice (some ⟨w.heap.size, 0, none⟩) k k] 63)) := (Below.refl _ _).alloc (Nat.le_refl _) _
  obtain ⟨h1, h2⟩ := range_of_owns hown hms
  refine ⟨⟨wr.heap.size, w.heap.size, k, ms, rfl, by simp, by simp [hl], by simp; omega, by omega, fun i hi j v hv => ?_, fun i hi => (hcomp i (by omega)).below hb⟩, hg.trans (World.grownBy_alloc _ _ none)⟩
  exact (hb.cell (p := ⟨w.heap.size, i * 30 + j, none⟩) h1).trans (h2 i (by omega) j v hv)

theorem news56 (w : World) (nm : ByteArray) (p q : Option Nat) : ∀ j u, (cells56 nm p q).toList[j]? = some u → ((w.alloc (.cells (cells56 nm p q) 56)).alloc (.cells (cells56 nm p q) 56)).cell? ((⟨w.heap.size + 1, 0, none⟩ : Addr).add j) = some u := by
  have h := heap_alloc_last (w.alloc (.cells (cells56 nm p q) 56)) (.cells (cells56 nm p q) 56)
  rw [show (w.alloc (.cells (cells56 nm p q) 56)).heap.size = w.heap.size + 1 by simp] at h
  exact World.news_of_block h
theorem cells56_one (nm : ByteArray) (p q : Option Nat) : ∀ u ∈ (cells56 nm p q).toList, u.oneCell' = true := fun u hu =>
  (Array.all_eq_true_iff_forall_mem.1 (one56 nm p q)) u (by simpa using hu)

theorem upon_of_eq {P : Program} {o : Oper} {a : Act} {K : Act → World → Prop} {Q : Exit → Act → World → Prop} {r0 r : Result Next} (_ : o.op = .buildSlice 58 1 #[(0, .tmp 24)]) (h : r0 = r) (hr : Oper.upon P o a K Q r) : Oper.upon P o a K Q r0 := h ▸ hr

set_option maxRecDepth 100000 in
set_option maxHeartbeats 4000000 in
theorem buildPolicy (ao : Option Addr) (n c : Nat) (rs : List RIn) (w : World) (hn : n ≤ 1048577) (hs : RolesAt w ao n rs) (hsm : ∀ r ∈ rs, Small r) :
    Calls Try.prog 8 #[.slice ao n c] w fun e w' => ∃ p, e = .returned p ∧ PolAt w' p rs ∧ w.grownBy w' none := by
  obtain ⟨i0, hi, hz0, hz1, hz2⟩ := info56_parts
  have HB0 := hd (show i0.bytes * n ≤ 281474976710656 from Nat.le_trans (Nat.mul_le_mul hz2 hn) (by omega))
  obtain ⟨hl, hok, hcell⟩ := hs
  have HOK := hd hok
  have HSM := hd hsm
  have key : n ≤ 0 ∨ (0 < n ∧ ∃ b off, b < w.heap.size ∧ ao = some ⟨b, off, none⟩ ∧ Hid (∀ i, i < n → w.cell? ⟨b, off + i * 3, none⟩ = some (.string (rs.getD i RIn.none).name) ∧
    w.cell? ⟨b, off + i * 3 + 1, none⟩ = some (.slice (rs.getD i RIn.none).aa (rs.getD i RIn.none).an (rs.getD i RIn.none).ac) ∧
    w.cell? ⟨b, off + i * 3 + 2, none⟩ = some (.slice (rs.getD i RIn.none).da (rs.getD i RIn.none).dn (rs.getD i RIn.none).dc))) := by
    by_cases h0 : 0 < n
    · obtain ⟨b, off, hb, ha, hc⟩ := hcell h0
      exact .inr ⟨h0, b, off, hb, ha, hc⟩
    · exact .inl (by omega)
  clear hcell hok hsm hz2
  rcases key with hn0 | ⟨hpos, b, off, hb, rfl, HC⟩
  all_goals
    go_enter Try.func8, Try.ntmps8
    go_wp2_with (at_make; refine wpList_make_own _ rfl _ _ 58 rfl w.heap.size 56 i0 (.agg zero56) 30 Try.underlying58 hi hz0 hz1 _ _ _ n rfl rfl rfl HB0.out (by unfold maxLen; omega) (Nat.le_refl _) ?_; intro w0 hown0 hgrow0)
    go_loopw [3, 5, 11] (fun r _ i wr => ∃ (k : Nat) (ms : List CR), k ≤ n ∧ i = .int .i64 k ∧ r = .slice (some ⟨w.heap.size, 0, none⟩) k n ∧ ms.length = k ∧ wr.ownsRow w.heap.size 56 30 (.slice (some ⟨w.heap.size, 0, none⟩) k n) k (ms.flatMap CR.cells) ∧ w.grownBy wr none ∧ (∀ j, j < k → Comp wr (rs.getD j RIn.none) (ms.getD j CR.none)) ∧ ∀ j, j < k → Far w.heap.size (ms.getD j CR.none)) (fun _ _ i _ => n - (intOf i).toNat)
    case atStart => exact ⟨0, [], Nat.zero_le _, rfl, rfl, rfl, hown0, hgrow0, fun j hj => by omega, fun j hj => by omega⟩
    case round =>
      obtain ⟨k, ms, hk, rfl, rfl, hms, hown, hg, hcomp, hfar⟩ := hrel
      by_cases hlt : k < n
      · try (exfalso; omega)
        all_goals
          have hbel : Below w.heap.size w wr := grown_below hg
          obtain ⟨e0, e1, e2⟩ := HC.out k hlt
          have f0 := (hbel.cell (p := ⟨b, off + k * 3, none⟩) hb).trans e0
          have f1 := (hbel.cell (p := ⟨b, off + k * 3 + 1, none⟩) hb).trans e1
          have f2 := (hbel.cell (p := ⟨b, off + k * 3 + 2, none⟩) hb).trans e2
          have hrk := (HOK.out _ (getD_mem (by omega : k < rs.length))).below (Nat.le_refl _) hbel
          have hsk := HSM.out _ (getD_mem (by omega : k < rs.length))
          obtain ⟨r, hr⟩ : ∃ r, r = rs.getD k RIn.none := ⟨_, rfl⟩
          rw [← hr] at f0 f1 f2 hrk hsk
          have HR := hd hr
          clear e0 e1 e2 hbel hr
          obtain ⟨nm, aa, an, ac, al, da, dn, dc, de⟩ := r
          simp only at f0 f1 f2
          have CA : Hid (∀ w', Below (wr.heap.size + 1) (wr.alloc (.cells #[.string nm, .slice aa an ac, .slice da dn dc] 25)) w' → Calls Try.prog 15 #[.slice aa an ac] w' fun e w'' => ∃ p, e = .returned (.map p) ∧ SetV w'' p an (keysOf al) ∧ w'.grownBy w'' none ∧ ∀ b, p = some b → wr.heap.size < b) := fun w' hb' =>
            (zzSet aa an ac al w' hsk.1 (hrk.2.2.2.1.below (Nat.le_refl _) (((Below.refl _ _).alloc (Nat.le_refl _) _).trans (hb'.mono (Nat.le_succ _))))).mono fun e w'' ⟨p, h1, h2, h4, h3⟩ => ⟨p, h1, h2, h3, fun b hb2 => Nat.lt_of_lt_of_le (by have := hb'.size; simp at this; omega) (h4 b hb2)⟩
          have CD : Hid (∀ w', Below (wr.heap.size + 1) (wr.alloc (.cells #[.string nm, .slice aa an ac, .slice da dn dc] 25)) w' → Calls Try.prog 15 #[.slice da dn dc] w' fun e w'' => ∃ p, e = .returned (.map p) ∧ SetV w'' p dn (keysOf de) ∧ w'.grownBy w'' none ∧ ∀ b, p = some b → wr.heap.size < b) := fun w' hb' =>
            (zzSet da dn dc de w' hsk.2 (hrk.2.2.2.2.below (Nat.le_refl _) (((Below.refl _ _).alloc (Nat.le_refl _) _).trans (hb'.mono (Nat.le_succ _))))).mono fun e w'' ⟨p, h1, h2, h4, h3⟩ => ⟨p, h1, h2, h3, fun b hb2 => Nat.lt_of_lt_of_le (by have := hb'.size; simp at this; omega) (h4 b hb2)⟩
          have KEEP : Hid (∀ w', Below (wr.heap.size + 1) (wr.alloc (.cells #[.string nm, .slice aa an ac, .slice da dn dc] 25)) w' → w'.cell? ⟨wr.heap.size, 0, none⟩ = some (.string nm) ∧ w'.cell? ⟨wr.heap.size, 1, none⟩ = some (.slice aa an ac) ∧ w'.cell? ⟨wr.heap.size, 2, none⟩ = some (.slice da dn dc)) := fun w' hb' =>
            ⟨(hb'.cell (p := ⟨wr.heap.size, 0, none⟩) (Nat.lt_succ_self _)).trans (by simp), (hb'.cell (p := ⟨wr.heap.size, 1, none⟩) (Nat.lt_succ_self _)).trans (by simp), (hb'.cell (p := ⟨wr.heap.size, 2, none⟩) (Nat.lt_succ_self _)).trans (by simp)⟩
          have HD0 : Hid (Below (wr.heap.size + 1) (wr.alloc (.cells #[.string nm, .slice aa an ac, .slice da dn dc] 25)) (wr.alloc (.cells #[.string nm, .slice aa an ac, .slice da dn dc] 25)).drew) := (Below.refl _ _).drew
          have HLT := hd (owns_lt hown)
          have HOWN : Hid (∀ w', Below (wr.heap.size + 1) (wr.alloc (.cells #[.string nm, .slice aa an ac, .slice da dn dc] 25)) w' → w'.ownsRow w.heap.size 56 30 (.slice (some ⟨w.heap.size, 0, none⟩) k n) k (ms.flatMap CR.cells)) := fun w' hb' =>
            owns_block hown ((hb'.block w.heap.size (Nat.lt_succ_of_lt (owns_lt hown))).trans (Below.heap_alloc wr _ _ (owns_lt hown)))
          have HFAR := hd hfar
          have HG := hd hg
          have HCO := hd hcomp
          clear hown hg hcomp hrk hsk hfar
          go_wp2_with fail
          go_region_held3 (fun w' => w'.cell? ⟨wr.heap.size, 0, none⟩ = some (.string nm) ∧ w'.cell? ⟨wr.heap.size, 1, none⟩ = some (.slice aa an ac) ∧ w'.cell? ⟨wr.heap.size, 2, none⟩ = some (.slice da dn dc))
            (first | exact KEEP.out _ HD0.out | exact KEEP.out _ HD1.out | exact KEEP.out _ HD2.out | exact KEEP.out _ HD3.out | exact KEEP.out _ HD4.out | exact HS5.out)
            (first
              | (refine upon_of_eq (r := .ok (.value (.slice (some ⟨(w2.alloc (.cells (cells56 nm p1 p2) 56)).heap.size, 0, none⟩) 1 1)) ((w2.alloc (.cells (cells56 nm p1 p2) 56)).alloc (.cells (cells56 nm p1 p2) 56))) rfl ?_ ?_; (kernel_rfl); rw [Oper.upon_value])
              | (go_at_call 14; refine (newRole _ _ _ _).mono ?_; rintro e w3 ⟨rfl, rfl⟩; have HD3 := hd (HD2.out.alloc (by have := HD2.out.size; simpa using this) (.cells (cells56 nm p1 p2) 56)); have HD4 := hd (HD3.out.alloc (by have := HD3.out.size; simpa using this) (.cells (cells56 nm p1 p2) 56)))
              | (go_at_call 15; refine (CD.out _ HD1.out).mono ?_; rintro e w2 ⟨p2, rfl, hp2, hg2, hf2⟩; have HD2 := hd (HD1.out.trans ((grown_below hg2).mono (by have := HD1.out.size; simpa using this))); have HP2 := hd hp2; have HG2 := hd hg2; have HF2 := hd hf2; clear hp2 hg2 hf2)
              | (go_at_call 15; refine (CA.out _ HD0.out).mono ?_; rintro e w1 ⟨p1, rfl, hp1, hg1, hf1⟩; have HD1 := hd (HD0.out.trans ((grown_below hg1).mono (by simp))); have HP1 := hd hp1; have HG1 := hd hg1; have HF1 := hd hf1; clear hp1 hg1 hf1)
              | (refine step_append_spare _ rfl _ _ 58 rfl w.heap.size 56 i0 30 Try.underlying58 hi hz1 w.heap.size k n (ms.flatMap CR.cells) rfl ?h1 ⟨w2.heap.size + 1, 0, none⟩ 1 1 (cells56 nm p1 p2).toList rfl rfl ?h2 ?h3 (by omega) ?_; (case h1 => exact HOWN.out _ HD4.out); (case h2 => exact news56 _ _ _ _); (case h3 => exact cells56_one _ _ _); intro w4 hown4 hgrow4; have HFIN := hd (build_round (r := ⟨nm, aa, an, ac, al, da, dn, dc, de⟩) HR.out hms HG.out HLT.out HCO.out HFAR.out HP1.out HG1.out HF1.out HP2.out HG2.out HF2.out hown4 hgrow4); have HS5 := hd (show w4.cell? ⟨wr.heap.size, 0, none⟩ = some (.string nm) ∧ w4.cell? ⟨wr.heap.size, 1, none⟩ = some (.slice aa an ac) ∧ w4.cell? ⟨wr.heap.size, 2, none⟩ = some (.slice da dn dc) from ⟨hgrow4.cell (KEEP.out _ HD4.out).1 (fun e => Nat.lt_irrefl _ (Option.some.inj e ▸ HLT.out)), hgrow4.cell (KEEP.out _ HD4.out).2.1 (fun e => Nat.lt_irrefl _ (Option.some.inj e ▸ HLT.out)), hgrow4.cell (KEEP.out _ HD4.out).2.2 (fun e => Nat.lt_irrefl _ (Option.some.inj e ▸ HLT.out))⟩); clear hown4 hgrow4))
          go_wp2
          go_roundw
          case rel => exact ⟨k + 1, _, by omega, by go_num, rfl, HFIN.out.1, HFIN.out.2.1, HFIN.out.2.2.1, HFIN.out.2.2.2.1, HFIN.out.2.2.2.2⟩
          case measure => simp [intOf]; omega
      · have HFIN := hd (pol_made hl hlt hk hms hown hg hcomp)
        clear hown hg hcomp hfar
        go_wp2_with (go_at_call 16; refine (newPolicy _ _ _ _).mono ?_; rintro e w' ⟨rfl, rfl⟩)
        go_ret
        exact ⟨_, rfl, HFIN.out⟩
end Go.Proofs.Qxb6618872a
