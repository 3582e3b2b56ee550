/-
  THE LOADER's SIDE: ZZnewLoader, loader.varint, loader.fail, ZZloader...
-/
import Derived.Test.Qxb6618929aDoorEnc
import Derived.Test.Qxb6618929aDoorShelf
namespace Go.Proofs.Qxb6618929aDoor
open Go Go.RowKit

/-- The slice value v holds the bytes l; they do not lie in block r. -/
def BytesAt (w : World) (r : Nat) (v : Value) (l : List UInt8) : Prop :=
  ∃ ao c, v = .slice ao l.length c ∧ l.length ≤ c ∧ (0 < l.length → ∃ g o, g ≠ r ∧ ao = some ⟨g, o, none⟩ ∧ ∀ j (hj : j < l.length), w.cell? ⟨g, o + j, none⟩ = some (.int .u8 (l[j]).toNat))

theorem heap_set3 {w : World} {s : Nat} {a b c u : Value} {t : TypeId} (h : w.heap[s]? = some (.cells #[a, b, c] t (0, 0))) : (w.setCell ⟨s, 0, none⟩ u).heap[s]? = some (.cells #[u, b, c] t (0, 0)) := by
  simpa using heap_setCell_same w s 0 #[a, b, c] t u h
theorem heap_set3c {w : World} {s : Nat} {a b c u : Value} {t : TypeId} (h : w.heap[s]? = some (.cells #[a, b, c] t (0, 0))) : (w.setCell ⟨s, 2, none⟩ u).heap[s]? = some (.cells #[a, b, u] t (0, 0)) := by
  simpa using heap_setCell_same w s 2 #[a, b, c] t u h

theorem lt_heap {w : World} {s : Nat} {o : Obj} (h : w.heap[s]? = some o) : s < w.heap.size := (Array.getElem?_eq_some_iff.1 h).1

theorem newLoader (bv sv : Value) (w : World) (hb : ∃ a n c, bv = .slice a n c) (hs : ∃ a n c, sv = .slice a n c) :
    Calls Tryd.prog 9 #[bv, sv] w fun e w' => e = .returned (.pointer (some ⟨w.heap.size, 0, none⟩)) ∧ w' = w.alloc (.cells #[bv, sv, .nilIface] 46) := by
  obtain ⟨a, n, c, rfl⟩ := hb
  obtain ⟨a2, n2, c2, rfl⟩ := hs
  go_enter Tryd.func9, Tryd.ntmps9
  go_wp2
  go_ret
  exact ⟨rfl, rfl⟩

section
variable {w : World} {r : Nat} {bv sv ev : Value}

theorem loaderB (h : w.heap[r]? = some (.cells #[bv, sv, ev] 46 (0, 0))) :
    Calls Tryd.prog 12 #[.pointer (some ⟨r, 0, none⟩)] w fun e w' => e = .returned bv ∧ w' = w := by
  have hc : w.cell? ⟨r, 0, none⟩ = some bv := by simpa using cell_of_row w r 0 _ 46 (0, 0) h
  clear h
  go_enter Tryd.func12, Tryd.ntmps12
  go_wp2
  go_ret
  exact ⟨rfl, rfl⟩

theorem loaderStrings (h : w.heap[r]? = some (.cells #[bv, sv, ev] 46 (0, 0))) :
    Calls Tryd.prog 14 #[.pointer (some ⟨r, 0, none⟩)] w fun e w' => e = .returned sv ∧ w' = w := by
  have hc : w.cell? ⟨r, 1, none⟩ = some sv := by simpa using cell_of_row w r 1 _ 46 (0, 0) h
  clear h
  go_enter Tryd.func14, Tryd.ntmps14
  go_wp2
  go_ret
  exact ⟨rfl, rfl⟩

theorem loaderFailed_no (h : w.heap[r]? = some (.cells #[bv, sv, .nilIface] 46 (0, 0))) :
    Calls Tryd.prog 11 #[.pointer (some ⟨r, 0, none⟩)] w fun e w' => e = .returned (.bool false) ∧ w' = w := by
  have hc : w.cell? ⟨r, 2, none⟩ = some .nilIface := by simpa using cell_of_row w r 2 _ 46 (0, 0) h
  clear h
  go_enter Tryd.func11, Tryd.ntmps11
  go_wp2
  go_ret
  exact ⟨rfl, rfl⟩

theorem loaderFailed_yes {t : TypeId} {x : Value} (h : w.heap[r]? = some (.cells #[bv, sv, .iface t x] 46 (0, 0))) :
    Calls Tryd.prog 11 #[.pointer (some ⟨r, 0, none⟩)] w fun e w' => e = .returned (.bool true) ∧ w' = w := by
  have hc : w.cell? ⟨r, 2, none⟩ = some (.iface t x) := by simpa using cell_of_row w r 2 _ 46 (0, 0) h
  clear h
  go_enter Tryd.func11, Tryd.ntmps11
  go_wp2
  go_ret
  exact ⟨rfl, rfl⟩
end

/-- loader.fail at a loader that has failed before: its error stays, its bytes go. -/
theorem fail_again {w : World} {r : Nat} {bv sv x : Value} {t : TypeId} (h : w.heap[r]? = some (.cells #[bv, sv, .iface t x] 46 (0, 0))) :
    Calls Tryd.prog 22 #[.pointer (some ⟨r, 0, none⟩)] w fun e w' => e = .returned (.tuple #[]) ∧ w'.heap[r]? = some (.cells #[.slice none 0 0, sv, .iface t x] 46 (0, 0)) ∧ Keeps w w' (fun k => k = r) := by
  have hc : w.cell? ⟨r, 2, none⟩ = some (.iface t x) := by simpa using cell_of_row w r 2 _ 46 (0, 0) h
  have hc0 : w.cell? ⟨r, 0, none⟩ = some bv := by simpa using cell_of_row w r 0 _ 46 (0, 0) h
  have hf0 := frozen_of_row w r 0 _ 46 h
  have HR : Hid (_ ∧ Keeps w _ (fun k => k = r)) := And.intro (heap_set3 (u := .slice none 0 0) h) ((Keeps.refl w (fun k => k = r)).setCell (a := ⟨r, 0, none⟩) (.slice none 0 0) (fun _ => rfl))
  clear h
  go_enter Tryd.func22, Tryd.ntmps22
  go_wp2
  go_end0
  exact ⟨rfl, HR.out.1, HR.out.2⟩

/-- loader.fail at a loader without an error: it takes the sentinel's. -/
theorem fail_first {w : World} {r : Nat} {bv sv x : Value} {t : TypeId} (h : w.heap[r]? = some (.cells #[bv, sv, .nilIface] 46 (0, 0))) (hg : w.cell? ⟨0, 0, none⟩ = some (.iface t x)) :
    Calls Tryd.prog 22 #[.pointer (some ⟨r, 0, none⟩)] w fun e w' => e = .returned (.tuple #[]) ∧ w'.heap[r]? = some (.cells #[.slice none 0 0, sv, .iface t x] 46 (0, 0)) ∧ Keeps w w' (fun k => k = r) := by
  have hc : w.cell? ⟨r, 2, none⟩ = some .nilIface := by simpa using cell_of_row w r 2 _ 46 (0, 0) h
  have hc0 : w.cell? ⟨r, 0, none⟩ = some bv := by simpa using cell_of_row w r 0 _ 46 (0, 0) h
  have hf0 := frozen_of_row w r 0 _ 46 h
  have hf2 := frozen_of_row w r 2 _ 46 h
  have h1 := heap_set3c (u := .iface t x) h
  have hc1 : (w.setCell ⟨r, 2, none⟩ (.iface t x)).cell? ⟨r, 0, none⟩ = some bv := by simpa using cell_of_row _ r 0 _ 46 (0, 0) h1
  have hf1 := frozen_of_row _ r 0 _ 46 h1
  have HR : Hid (_ ∧ Keeps w _ (fun k => k = r)) := And.intro (heap_set3 (u := .slice none 0 0) h1) (((Keeps.refl w (fun k => k = r)).setCell (a := ⟨r, 2, none⟩) (.iface t x) (fun _ => rfl)).setCell (a := ⟨r, 0, none⟩) (.slice none 0 0) (fun _ => rfl))
  clear h h1
  go_enter Tryd.func22, Tryd.ntmps22
  go_wp2
  go_end0
  exact ⟨rfl, HR.out.1, HR.out.2⟩

/-- loader.varint where the bytes spell no varint ('too small'). -/
theorem varint_refuses {w : World} {r : Nat} {bv sv ev x : Value} {t : TypeId} {l : List UInt8} (h : w.heap[r]? = some (.cells #[bv, sv, ev] 46 (0, 0)))
    (hev : (ev = .nilIface ∧ w.cell? ⟨0, 0, none⟩ = some (.iface t x)) ∨ ev = .iface t x) (hb : BytesAt w r bv l) (hd : Lib.varintDec l = (0, 0)) :
    Calls Tryd.prog 19 #[.pointer (some ⟨r, 0, none⟩)] w fun e w' => e = .returned (.int .i64 0) ∧ w'.heap[r]? = some (.cells #[.slice none 0 0, sv, .iface t x] 46 (0, 0)) ∧ Keeps w w' (fun k => k = r) := by
  obtain ⟨ao, c, rfl, hlc, hcell⟩ := hb
  have hc0 : w.cell? ⟨r, 0, none⟩ = some (.slice ao l.length c) := by simpa using cell_of_row w r 0 _ 46 (0, 0) h
  have hF : Calls Tryd.prog 22 #[.pointer (some ⟨r, 0, none⟩)] w fun e w' => e = .returned (.tuple #[]) ∧ w'.heap[r]? = some (.cells #[.slice none 0 0, sv, .iface t x] 46 (0, 0)) ∧ Keeps w w' (fun k => k = r) := by
    rcases hev with ⟨rfl, hg⟩ | rfl
    · exact fail_first h hg
    · exact fail_again h
  have hV : Calls Tryd.prog 21 #[.slice ao l.length c] w fun e w' => e = .returned (.tuple #[.int .i64 0, .int .i64 0]) ∧ w' = w := by
    by_cases hl : 0 < l.length
    · obtain ⟨g, o, _, rfl, hcl⟩ := hcell hl
      have := Tryd.binary_Varint g o l.length c l w rfl hcl
      rw [hd] at this
      exact this
    · have hl0 : l = [] := List.eq_nil_of_length_eq_zero (by omega)
      subst hl0
      exact Tryd.binary_Varint_empty ao c w
  clear h hev hcell hd
  go_enter Tryd.func19, Tryd.ntmps19
  go_wp2_with (first | (go_at_call 21; refine hV.mono ?_; rintro e w1 ⟨rfl, h⟩; obtain rfl := h.symm) | (go_at_call 22; refine hF.mono ?_; rintro e w1 ⟨rfl, h1, h2⟩))
  go_ret
  exact ⟨rfl, by assumption, by assumption⟩

/-- loader.varint where the bytes begin with a varint. -/
theorem varint_reads {w : World} {r : Nat} {bv sv ev : Value} {v : Int} {rest : List UInt8} (h : w.heap[r]? = some (.cells #[bv, sv, ev] 46 (0, 0)))
    (hb : BytesAt w r bv (vb v ++ rest)) (h0 : -9223372036854775808 ≤ v) (h1 : v ≤ 9223372036854775807) (hsz : (vb v ++ rest).length ≤ 9223372036854775807) :
    Calls Tryd.prog 19 #[.pointer (some ⟨r, 0, none⟩)] w fun e w' => e = .returned (.int .i64 v) ∧ ∃ bv', w'.heap[r]? = some (.cells #[bv', sv, ev] 46 (0, 0)) ∧ BytesAt w' r bv' rest ∧ Keeps w w' (fun k => k = r) := by
  obtain ⟨ao, c, rfl, hlc, hcell⟩ := hb
  have hvl := vb_len v h0 h1
  have hll : (vb v ++ rest).length = (vb v).length + rest.length := List.length_append
  obtain ⟨g, o, hgr, rfl, hcl⟩ := hcell (by omega)
  have hc0 : w.cell? ⟨r, 0, none⟩ = some (.slice (some ⟨g, o, none⟩) (vb v ++ rest).length c) := by simpa using cell_of_row w r 0 _ 46 (0, 0) h
  have hf0 := frozen_of_row w r 0 _ 46 h
  have hV := Tryd.binary_Varint g o _ c (vb v ++ rest) w rfl hcl
  rw [dec_vb v h0 h1] at hV
  have HR : Hid (∀ u : Value, (w.setCell ⟨r, 0, none⟩ u).heap[r]? = some (.cells #[u, sv, ev] 46 (0, 0)) ∧ Keeps w (w.setCell ⟨r, 0, none⟩ u) (fun k => k = r)) :=
    fun u => ⟨heap_set3 (u := u) h, (Keeps.refl w (fun k => k = r)).setCell (a := ⟨r, 0, none⟩) u (fun _ => rfl)⟩
  have HC : Hid (∀ (u : Value) j (hj : j < rest.length), (w.setCell ⟨r, 0, none⟩ u).cell? ⟨g, o + (vb v).length + j, none⟩ = some (.int .u8 (rest[j]).toNat)) := by
    intro u j hj
    rw [World.cell?_of_block (w := w) (Below.heap_setCell w ⟨r, 0, none⟩ u g hgr), Nat.add_assoc, hcl ((vb v).length + j) (by omega)]
    rw [List.getElem_append_right (by omega)]
    simp
  clear hcl hcell h
  generalize (vb v ++ rest).length = N at hc0 hV hlc hsz hll ⊢
  generalize (vb v).length = M at hV hvl hll HC
  have HN : Hid (N = M + rest.length) := hll
  have hMN : M ≤ N := by omega
  clear hll
  go_enter Tryd.func19, Tryd.ntmps19
  go_wp2_with (first | (go_at_call 21; refine hV.mono ?_; rintro e w1 ⟨rfl, h⟩; obtain rfl := h.symm))
  all_goals
    go_ret
    refine ⟨rfl, _, (HR.out _).1, ?_, (HR.out _).2⟩
    have hN := HN.out
  · refine ⟨_, _, by rw [show N - M = rest.length by omega], by omega, fun h => by omega⟩
  · refine ⟨_, _, by rw [show N - M = rest.length by omega], by omega, fun h => ⟨g, o + M, hgr, rfl, fun j hj => HC.out _ j hj⟩⟩

/-- ZZloaderVarint is loader.varint. -/
theorem zzLoaderVarint {w : World} {r : Nat} {Q : Ending → World → Prop} {v : Int} (h : Calls Tryd.prog 19 #[.pointer (some ⟨r, 0, none⟩)] w fun e w' => e = .returned (.int .i64 v) ∧ Q e w') :
    Calls Tryd.prog 10 #[.pointer (some ⟨r, 0, none⟩)] w fun e w' => e = .returned (.int .i64 v) ∧ Q e w' := by
  go_enter Tryd.func10, Tryd.ntmps10
  go_wp2_with fail
  refine h.mono ?_
  rintro e w1 ⟨rfl, hq⟩
  go_wp2
  go_ret
  exact ⟨rfl, hq⟩
end Go.Proofs.Qxb6618929aDoor
