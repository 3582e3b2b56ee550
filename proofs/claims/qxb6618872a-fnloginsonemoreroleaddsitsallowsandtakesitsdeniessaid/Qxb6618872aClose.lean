/-
  The closures: the picker (13), the role denies the login (21), some role denies it (19).
-/
import Derived.Test.Qxb6618872aBuild2
namespace Go.Proofs.Qxb6618872a
open Go Go.RowKit

theorem c56_name (w : World) (nm : ByteArray) (a d : Option Nat) : (w.alloc (.cells (cells56 nm a d) 56)).cell? ⟨w.heap.size, 0, none⟩ = some (.string nm) := by simp [cells56]
theorem c56_allow (w : World) (nm : ByteArray) (a d : Option Nat) : (w.alloc (.cells (cells56 nm a d) 56)).cell? ⟨w.heap.size, 2, none⟩ = some (.map a) := by simp [cells56]
theorem c56_deny (w : World) (nm : ByteArray) (a d : Option Nat) : (w.alloc (.cells (cells56 nm a d) 56)).cell? ⟨w.heap.size, 10, none⟩ = some (.map d) := by simp [cells56]

set_option maxRecDepth 100000 in
theorem picks (nm pk : ByteArray) (a d : Option Nat) (pb : Nat) (w : World) (hb : pb < w.heap.size) (hc : w.cell? ⟨pb, 0, none⟩ = some (.string pk)) :
    Calls Try.prog 13 #[.agg (cells56 nm a d), .pointer (some ⟨pb, 0, none⟩)] w fun e w' => e = .returned (.bool (nm.toList == pk.toList)) ∧ w.grownBy w' none := by
  have h1 := c56_name
  have h2 : (w.alloc (.cells (cells56 nm a d) 56)).cell? ⟨pb, 0, none⟩ = some (.string pk) := (((Below.refl w.heap.size w).alloc (Nat.le_refl _) _).cell (p := ⟨pb, 0, none⟩) hb).trans hc
  go_enter Try.func13, Try.ntmps13
  go_wp2
  go_ret
  exact ⟨rfl, World.grownBy_alloc _ _ _⟩

set_option maxRecDepth 100000 in
theorem denies (nm s : ByteArray) (a d : Option Nat) (n : Nat) (S : List (List UInt8)) (pb : Nat) (w : World) (hb : pb < w.heap.size) (hc : w.cell? ⟨pb, 0, none⟩ = some (.string s)) (hs : s.size ≤ maxLen) (hS : SetV w d n S) :
    Calls Try.prog 21 #[.agg (cells56 nm a d), .pointer (some ⟨pb, 0, none⟩)] w fun e w' => e = .returned (.bool (decide (s.data.toList ∈ S))) ∧ w.grownBy w' none := by
  have h1 := c56_deny
  have hbl : Below w.heap.size w (w.alloc (.cells (cells56 nm a d) 56)) := (Below.refl w.heap.size w).alloc (Nat.le_refl _) _
  have h2 : (w.alloc (.cells (cells56 nm a d) 56)).cell? ⟨pb, 0, none⟩ = some (.string s) := (hbl.cell (p := ⟨pb, 0, none⟩) hb).trans hc
  have h3 := (hS.below hbl).look s hs
  clear hbl hS
  go_enter Try.func21, Try.ntmps21
  go_wp2
  go_ret
  exact ⟨rfl, World.grownBy_alloc _ _ _⟩
/-- A compiled role with the set of her denies. -/
def DRole (w : World) : Type := { x : CR × Nat × List (List UInt8) // SetV w x.1.d x.2.1 x.2.2 }

theorem droles (w : World) (ms : List CR) (rs : List RIn) : ∀ (n : Nat), (∀ i, i < n → Comp w (rs.getD i RIn.none) (ms.getD i CR.none)) →
    ∃ zs : List (DRole w), zs.length = n ∧ ∀ i (h : i < zs.length), zs[i].1 = (ms.getD i CR.none, (rs.getD i RIn.none).dn, keysOf (rs.getD i RIn.none).de)
  | 0, _ => ⟨[], rfl, fun i h => by simp at h⟩
  | n + 1, h => by
    obtain ⟨zs, h1, h2⟩ := droles w ms rs n (fun i hi => h i (by omega))
    obtain ⟨z, hz⟩ : ∃ z : DRole w, z.1 = (ms.getD n CR.none, (rs.getD n RIn.none).dn, keysOf (rs.getD n RIn.none).de) := ⟨⟨_, (h n (by omega)).2.2⟩, rfl⟩
    refine ⟨zs ++ [z], by rw [List.length_append, h1]; rfl, fun i hi => ?_⟩
    rw [List.length_append, h1] at hi
    have hi' : i < n + 1 := hi
    rw [List.getElem_append]
    split
    · rename_i h3; exact h2 i h3
    · rename_i h3
      have : i = n := by omega
      subst this
      rw [← hz]
      simp [h1]

/-- Some role denies the login. -/
def denied (rs : List RIn) (l : List UInt8) : Bool := rs.any fun r => decide (l ∈ keysOf r.de)

theorem contains {w : World} {g cap : Nat} {ms : List CR} {rs : List RIn} (hg : g < w.heap.size) (hr : ∀ i, i < rs.length → w.rangeAt g (i * 30) (ms.getD i CR.none).cells)
    (hc : ∀ i, i < rs.length → Comp w (rs.getD i RIn.none) (ms.getD i CR.none)) (hn : rs.length ≤ 1048577) (sb : Nat) (s : ByteArray) (hb : sb < w.heap.size) (hcell : w.cell? ⟨sb, 0, none⟩ = some (.string s)) (hs : s.size ≤ maxLen) :
    Calls Try.prog 20 #[.slice (some ⟨g, 0, none⟩) rs.length cap, .func (.func 21) #[] #[.pointer (some ⟨sb, 0, none⟩)]] w fun e w' => e = .returned (.bool (denied rs s.data.toList)) ∧ Below w.heap.size w w' := by
  obtain ⟨zs, h1, h2⟩ := droles w ms rs rs.length hc
  let _ : Inhabited (DRole w) := ⟨⟨(CR.none, 0, []), .inl ⟨rfl, rfl⟩⟩⟩
  refine (Try.slices_ContainsFunc (α := DRole w) (fun x => x.1.1.cells) (fun x => rfl) (fun x => decide (s.data.toList ∈ x.1.2.2)) 21 #[.pointer (some ⟨sb, 0, none⟩)] (enters_of Try.func21 (by kernel_rfl) rfl) g 0 rs.length cap zs w ?_ (by omega) (by omega) hg ?_).mono ?_
  · intro W x hbw
    refine (denies x.1.1.nm s x.1.1.a x.1.1.d x.1.2.1 x.1.2.2 sb W (Nat.lt_of_lt_of_le hb hbw.size) ((hbw.cell (p := ⟨sb, 0, none⟩) hb).trans hcell) hs (x.2.below hbw)).mono ?_
    rintro e w' ⟨rfl, h⟩
    exact ⟨rfl, hbw.trans ((grown_below h).mono hbw.size)⟩
  · intro j hj i v hv
    rw [getElem!_pos zs j hj, h2 j hj] at hv
    have := hr j (by omega) i v hv
    simpa using this
  · rintro e w' ⟨rfl, h⟩
    refine ⟨?_, h⟩
    congr 2
    rw [List.take_of_length_le (by omega), Bool.eq_iff_iff, denied, List.any_eq_true, List.any_eq_true]
    constructor
    · rintro ⟨x, hx, hd⟩
      obtain ⟨i, hi, rfl⟩ := List.getElem_of_mem hx
      refine ⟨rs.getD i RIn.none, getD_mem (by omega), ?_⟩
      rw [h2 i hi] at hd
      exact hd
    · rintro ⟨r, hx, hd⟩
      obtain ⟨i, hi, rfl⟩ := List.getElem_of_mem hx
      refine ⟨zs[i]'(by omega), List.getElem_mem _, ?_⟩
      rw [h2 i (by omega)]
      simpa [List.getD, hi] using hd

set_option maxRecDepth 100000 in
theorem someDenies {w : World} {p : Value} {rs : List RIn} (hp : PolAt w p rs) (hn : rs.length ≤ 1048577) (tb : Nat) (htb : tb < w.heap.size) (htc : w.cell? ⟨tb, 0, none⟩ = some p) (s : ByteArray) (x : Bool) (hs : s.size ≤ maxLen) :
    Calls Try.prog 19 #[.string s, .bool x, .pointer (some ⟨tb, 0, none⟩)] w fun e w' => e = .returned (.bool (denied rs s.data.toList)) ∧ w.grownBy w' none := by
  have hbl : Below w.heap.size w (w.alloc (.cells #[.string s] 9)) := (Below.refl w.heap.size w).alloc (Nat.le_refl _) _
  have h1 := (hbl.cell (p := ⟨tb, 0, none⟩) htb).trans htc
  obtain ⟨pb, g, cap, ms, rfl, q2, q3, q4, q5, q6, q7⟩ := hp.below hbl
  have CON := hd (contains (cap := cap) q4 q6 q7 hn w.heap.size s (by simp) (by simp) hs)
  have HB := hd hbl
  clear q4 q5 q6 q7 hp hbl htc
  go_enter Try.func19, Try.ntmps19
  go_wp2_with (go_at_call 20; refine CON.out.mono ?_; rintro e w' ⟨rfl, hb'⟩; have HB' := hd hb'; clear hb')
  go_ret
  exact ⟨rfl, below_grown (HB.out.trans (HB'.out.mono HB.out.size))⟩
end Go.Proofs.Qxb6618872a
