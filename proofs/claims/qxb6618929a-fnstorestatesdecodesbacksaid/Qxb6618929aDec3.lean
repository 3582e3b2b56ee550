/-
  zzDecVarint, zzDecInt, zzDecOptInt.
-/
import Derived.Test.Qxb6618929aDec2
import Derived.Test.Qxb6618929aBuild1
namespace Go.Proofs.Qxb6618929a
open Go Go.RowKit

theorem d_varint (s : Nat) (R : Nat → Prop) (out : List UInt8) (p : Nat) (ts : List (List UInt8)) (bv sv : Value) (x : Int) (rest : List UInt8) (w : World) (h : Dec w s R out p ts bv sv) (hout : out.length ≤ 140737489403904) (hx : Range x) (hc : out.drop p = vb x ++ rest) :
    Calls Try.prog 29 #[.pointer (some ⟨s, 0, none⟩)] w fun e w' => e = .returned (.int .i64 x) ∧ DecTo s R w out (p + (vb x).length) ts bv w' := by
  have C := hd (d_uvarint s R out p ts bv sv (Lib.zigzag x) rest w h hout (Lib.zigzag_lt hx.1 hx.2) hc)
  have hx0 := hx.1
  have hx1 := hx.2
  clear h hc hx
  obtain ⟨a, ha, hcase⟩ : ∃ a : Nat, a < 9223372036854775808 ∧ ((Lib.zigzag x = 2 * a ∧ x = a) ∨ (Lib.zigzag x = 2 * a + 1 ∧ x = -(a : Int) - 1)) := by
    unfold Lib.zigzag
    split
    · exact ⟨x.toNat, by omega, .inl (by omega)⟩
    · exact ⟨(-x - 1).toNat, by omega, .inr (by omega)⟩
  have HV : Hid ((vb x).length = (Lib.uvarint (Lib.zigzag x)).length) := rfl
  rw [HV.out]
  generalize Lib.zigzag x = u at *
  rcases hcase with ⟨rfl, rfl⟩ | ⟨rfl, rfl⟩
  · have hand : bits .and .u64 (2 * (a : Int)) 1 = 0 := by rw [Lib.u64_and1 _ (by omega) (by omega)]; omega
    go_enter Try.func29, Try.ntmps29
    go_wp2_with (go_at_call 41; refine C.out.mono ?_; rintro e w' ⟨rfl, hg⟩; have HG := hd hg; clear hg)
    go_ret
    exact ⟨rfl, HG.out⟩
  · have hand : bits .and .u64 (2 * (a : Int) + 1) 1 = 1 := by rw [Lib.u64_and1 _ (by omega) (by omega)]; omega
    have hdiv : (2 * (a : Int) + 1) / 2 = a := by omega
    have hxor := Lib.i64_not a ha
    go_enter Try.func29, Try.ntmps29
    go_wp2_with (go_at_call 41; refine C.out.mono ?_; rintro e w' ⟨rfl, hg⟩; have HG := hd hg; clear hg)
    go_ret
    exact ⟨rfl, HG.out⟩

theorem d_int (s : Nat) (R : Nat → Prop) (out : List UInt8) (p : Nat) (ts : List (List UInt8)) (bv sv : Value) (x : Int) (rest : List UInt8) (w : World) (h : Dec w s R out p ts bv sv) (hout : out.length ≤ 140737489403904) (hx : Range x) (hc : out.drop p = vb x ++ rest) :
    Calls Try.prog 31 #[.pointer (some ⟨s, 0, none⟩)] w fun e w' => e = .returned (.int .i64 x) ∧ DecTo s R w out (p + (vb x).length) ts bv w' := by
  have C := hd (d_varint s R out p ts bv sv x rest w h hout hx hc)
  clear h hc hx
  go_enter Try.func31, Try.ntmps31
  go_wp2_with (go_at_call 29; refine C.out.mono ?_; rintro e w' ⟨rfl, ⟨sv', g1⟩, g2⟩; have b3 := g1.cells.2.2.2.1; have HG := hd (And.intro g1 g2); clear g1 g2)
  go_ret
  exact ⟨rfl, ⟨_, HG.out.1⟩, HG.out.2⟩

/-- Behind a step of the decoder that hands on a value: N: the new blocks that it lies in, held besides. -/
def DecNew (s : Nat) (R : Nat → Prop) (w : World) (out : List UInt8) (p : Nat) (ts : List (List UInt8)) (bv : Value) (P : (Nat → Prop) → World → Prop) (w' : World) : Prop :=
  ∃ N : Nat → Prop, (∀ k, N k → w.heap.size ≤ k ∧ k < w'.heap.size) ∧ (∃ sv, Dec w' s (fun k => R k ∨ N k) out p ts bv sv) ∧ Fr R w w' ∧ P N w'

theorem Dec.same {w : World} {s : Nat} {R R' : Nat → Prop} {out : List UInt8} {p : Nat} {ts : List (List UInt8)} {bv sv : Value} (h : Dec w s R out p ts bv sv) (hr : ∀ k, R k ↔ R' k) : Dec w s R' out p ts bv sv :=
  ⟨h.box, h.bytes.more (fun k hk => (hr k).1 hk), h.strs, fun k hk hn => h.sat k hk ((hr k).2 hn), fun hn => h.here ((hr s).2 hn), fun k hk => h.base k ((hr k).2 hk)⟩

/-- A new block is held besides. -/
theorem Dec.hold {w : World} {s : Nat} {R : Nat → Prop} {out : List UInt8} {p : Nat} {ts : List (List UInt8)} {bv sv : Value} (h : Dec w s R out p ts bv sv) (o : Obj) :
    Dec (w.alloc o) s (fun k => R k ∨ k = w.heap.size) out p ts bv sv ∧ Fr R w (w.alloc o) := by
  have hb : ∀ k, k < w.heap.size → (w.alloc o).heap[k]? = w.heap[k]? := fun k hk => Below.heap_alloc w o k hk
  refine ⟨⟨(hb s h.lt).trans h.box, (h.bytes.kept (fun k hk => hb k (h.base k hk))).more (fun k hk => .inl hk), own_kept h.strs (fun k hk => hb k (own_lt h.strs k hk)), fun k hk hn => ?_, fun hn => ?_, fun k hk => ?_⟩, (Fr.refl R w).alloc h.base o⟩
  · rcases hn with hn | hn
    · exact h.sat k hk hn
    · have := own_lt h.strs k hk; omega
  · rcases hn with hn | hn
    · exact h.here hn
    · have := h.lt; omega
  · rcases hk with hk | hk
    · have := h.base k hk; simp; omega
    · simp; omega

theorem d_opt (s : Nat) (R : Nat → Prop) (out : List UInt8) (p : Nat) (ts : List (List UInt8)) (bv sv : Value) (o : Option Int) (rest : List UInt8) (w : World) (h : Dec w s R out p ts bv sv) (hout : out.length ≤ 140737489403904) (ho : ∀ x, o = some x → Range x)
    (hc : out.drop p = (putOpt o ([], [])).1 ++ rest) :
    Calls Try.prog 30 #[.pointer (some ⟨s, 0, none⟩)] w fun e w' => ∃ v, e = .returned v ∧ DecNew s R w out (p + (putOpt o ([], [])).1.length) ts bv (fun R' w' => OptAt w' R' v o) w' := by
  cases o with
  | none =>
    have C := hd (d_flag s R out p ts bv sv false rest w h hout hc)
    clear h hc
    go_enter Try.func30, Try.ntmps30
    go_wp2_with (go_at_call 34; refine C.out.mono ?_; rintro e w' ⟨rfl, hg⟩; have HG := hd hg; clear hg)
    go_ret
    obtain ⟨⟨sv', q1⟩, q2⟩ := HG.out
    exact ⟨_, rfl, fun _ => False, fun _ h => h.elim, ⟨sv', q1.same (fun k => ⟨.inl, fun h => h.elim id False.elim⟩)⟩, q2, rfl⟩
  | some x =>
    have hc' : out.drop p = bitB true 1 :: (vb x ++ rest) := by simpa [putOpt, putB, putV, bitB] using hc
    have C := hd (d_flag s R out p ts bv sv true _ w h hout hc')
    have HC2 := hd (drop_cons hc').2.2
    have HX := ho x rfl
    have HLEN : Hid (p + (putOpt (some x) ([], [])).1.length = p + 1 + (vb x).length) := by show _ = _; simp [putOpt, putB, putV]; omega
    clear h hc hc'
    go_enter Try.func30, Try.ntmps30
    go_wp2_with (first
      | (go_at_call 31; refine C2.out.mono ?_; rintro e w2 ⟨rfl, ⟨sv2, g1⟩, g2⟩; have HG2 := hd (And.intro g1 g2); clear g1 g2)
      | (go_at_call 34; refine C.out.mono ?_; rintro e w' ⟨rfl, ⟨sv', g1⟩, g2⟩; have b3 := g1.cells.2.2.2.1; have C2 := hd (d_int s R out (p + 1) ts bv sv' x rest w' g1 hout HX HC2.out); have HG := hd g2; clear g1 g2))
    go_ret
    obtain ⟨q1, q2⟩ := HG2.out.1.hold (.cells #[.int .i64 x] 3)
    rw [HLEN.out]
    exact ⟨_, rfl, fun k => k = w2.heap.size, fun k hk => ⟨by rw [hk]; exact (HG.out.trans HG2.out.2).size, by rw [hk]; simp⟩, ⟨_, q1⟩, (HG.out.trans HG2.out.2).trans q2, ⟨w2.heap.size, 0, none⟩, rfl, rfl, by simp⟩
end Go.Proofs.Qxb6618929a
