/-
  WHAT LIES IN MEMORY: options, cards, seats; storer.optInt, storer.cards.
-/
import Derived.Test.Qxb6618929aFlag
import Derived.Test.Qxb6618929aApp
import Derived.Deep.RegionWith
namespace Go.Proofs.Qxb6618929a
open Go Go.RowKit

/-! ### A slice held against nil -/
theorem qz36 (W : World) (n c n' c' : Nat) : (binOp .eql 36 (.slice none n c) (.slice none n' c')).run Try.prog W = .ok (.bool true) W := Lib.run_eql_slice_nil W _ _ none n c n' c' Try.underlying36
theorem qs36 (W : World) (a : Addr) (n c n' c' : Nat) : (binOp .eql 36 (.slice (some a) n c) (.slice none n' c')).run Try.prog W = .ok (.bool false) W := Lib.run_eql_slice_nil W _ _ (some a) n c n' c' Try.underlying36
theorem qz37 (W : World) (n c n' c' : Nat) : (binOp .eql 37 (.slice none n c) (.slice none n' c')).run Try.prog W = .ok (.bool true) W := Lib.run_eql_slice_nil W _ _ none n c n' c' Try.underlying37
theorem qs37 (W : World) (a : Addr) (n c n' c' : Nat) : (binOp .eql 37 (.slice (some a) n c) (.slice none n' c')).run Try.prog W = .ok (.bool false) W := Lib.run_eql_slice_nil W _ _ (some a) n c n' c' Try.underlying37
theorem qz42 (W : World) (n c n' c' : Nat) : (binOp .eql 42 (.slice none n c) (.slice none n' c')).run Try.prog W = .ok (.bool true) W := Lib.run_eql_slice_nil W _ _ none n c n' c' Try.underlying42
theorem qs42 (W : World) (a : Addr) (n c n' c' : Nat) : (binOp .eql 42 (.slice (some a) n c) (.slice none n' c')).run Try.prog W = .ok (.bool false) W := Lib.run_eql_slice_nil W _ _ (some a) n c n' c' Try.underlying42
theorem qz46 (W : World) (n c n' c' : Nat) : (binOp .eql 46 (.slice none n c) (.slice none n' c')).run Try.prog W = .ok (.bool true) W := Lib.run_eql_slice_nil W _ _ none n c n' c' Try.underlying46
theorem qs46 (W : World) (a : Addr) (n c n' c' : Nat) : (binOp .eql 46 (.slice (some a) n c) (.slice none n' c')).run Try.prog W = .ok (.bool false) W := Lib.run_eql_slice_nil W _ _ (some a) n c n' c' Try.underlying46
theorem qz48 (W : World) (n c n' c' : Nat) : (binOp .eql 48 (.slice none n c) (.slice none n' c')).run Try.prog W = .ok (.bool true) W := Lib.run_eql_slice_nil W _ _ none n c n' c' Try.underlying48
theorem qs48 (W : World) (a : Addr) (n c n' c' : Nat) : (binOp .eql 48 (.slice (some a) n c) (.slice none n' c')).run Try.prog W = .ok (.bool false) W := Lib.run_eql_slice_nil W _ _ (some a) n c n' c' Try.underlying48
theorem qz73 (W : World) (n c n' c' : Nat) : (binOp .eql 73 (.slice none n c) (.slice none n' c')).run Try.prog W = .ok (.bool true) W := Lib.run_eql_slice_nil W _ _ none n c n' c' Try.underlying73
theorem qs73 (W : World) (a : Addr) (n c n' c' : Nat) : (binOp .eql 73 (.slice (some a) n c) (.slice none n' c')).run Try.prog W = .ok (.bool false) W := Lib.run_eql_slice_nil W _ _ (some a) n c n' c' Try.underlying73
theorem qz77 (W : World) (n c n' c' : Nat) : (binOp .eql 77 (.slice none n c) (.slice none n' c')).run Try.prog W = .ok (.bool true) W := Lib.run_eql_slice_nil W _ _ none n c n' c' Try.underlying77
theorem qs77 (W : World) (a : Addr) (n c n' c' : Nat) : (binOp .eql 77 (.slice (some a) n c) (.slice none n' c')).run Try.prog W = .ok (.bool false) W := Lib.run_eql_slice_nil W _ _ (some a) n c n' c' Try.underlying77

def Range (x : Int) : Prop := -9223372036854775808 ≤ x ∧ x ≤ 9223372036854775807

/-- A pointer to an int, or nil. -/
def OptAt (w : World) (R : Nat → Prop) (v : Value) (o : Option Int) : Prop := match o with
  | none => v = .pointer none
  | some x => ∃ a : Addr, v = .pointer (some a) ∧ R a.block ∧ w.cell? a = some (.int .i64 x)
/-- A slice of bytes or cards, or nil. -/
def CardsAt (w : World) (R : Nat → Prop) (v : Value) (o : Option (List UInt8)) : Prop := match o with
  | none => v = .slice none 0 0
  | some cs => ∃ (a : Addr) (cap : Nat), v = .slice (some a) cs.length cap ∧ (cs.length ≤ 0 ∨ ∃ b off, a = ⟨b, off, none⟩ ∧ R b ∧ ∀ j, j < cs.length → w.cell? ⟨b, off + j, none⟩ = some (.int .u8 (cs.getD j 0).toNat))

/-- The blocks of R are alike. -/
def Same (R : Nat → Prop) (w w' : World) : Prop := ∀ k, R k → w'.heap[k]? = w.heap[k]?
theorem Fr.same {R : Nat → Prop} {w w' : World} (h : Fr R w w') : Same R w w' := h.block
theorem Same.cell {R : Nat → Prop} {w w' : World} (h : Same R w w') {p : Addr} (hp : R p.block) : w'.cell? p = w.cell? p := World.cell?_of_block (h _ hp)
theorem Same.drew (R : Nat → Prop) (w : World) : Same R w w.drew := fun _ _ => rfl
theorem OptAt.kept {w w' : World} {R : Nat → Prop} {v : Value} {o : Option Int} (h : OptAt w R v o) (hs : Same R w w') : OptAt w' R v o := by
  cases o with
  | none => exact h
  | some x =>
    obtain ⟨a, h1, h2, h3⟩ := h
    exact ⟨a, h1, h2, (hs.cell h2).trans h3⟩
theorem CardsAt.kept {w w' : World} {R : Nat → Prop} {v : Value} {o : Option (List UInt8)} (h : CardsAt w R v o) (hs : Same R w w') : CardsAt w' R v o := by
  cases o with
  | none => exact h
  | some cs =>
    obtain ⟨a, cap, h1, h2⟩ := h
    rcases h2 with h2 | ⟨b, off, h3, h4, h5⟩
    · exact ⟨a, cap, h1, .inl h2⟩
    exact ⟨a, cap, h1, .inr <| ⟨b, off, h3, h4, fun j hj => (hs.cell (p := ⟨b, off + j, none⟩) h4).trans (h5 j hj)⟩⟩
theorem OptAt.more {w : World} {R R' : Nat → Prop} {v : Value} {o : Option Int} (h : OptAt w R v o) (hr : ∀ k, R k → R' k) : OptAt w R' v o := by
  cases o with
  | none => exact h
  | some x =>
    obtain ⟨a, h1, h2, h3⟩ := h
    exact ⟨a, h1, hr _ h2, h3⟩
theorem CardsAt.more {w : World} {R R' : Nat → Prop} {v : Value} {o : Option (List UInt8)} (h : CardsAt w R v o) (hr : ∀ k, R k → R' k) : CardsAt w R' v o := by
  cases o with
  | none => exact h
  | some cs =>
    obtain ⟨a, cap, h1, h2⟩ := h
    rcases h2 with h2 | ⟨b, off, h3, h4, h5⟩
    · exact ⟨a, cap, h1, .inl h2⟩
    exact ⟨a, cap, h1, .inr ⟨b, off, h3, hr _ h4, h5⟩⟩

theorem s_optInt (s : Nat) (R : Nat → Prop) (st : St) (bv sv : Value) (p : Addr) (v : Value) (o : Option Int) (ho : ∀ x, o = some x → Range x) (w : World) (h : Sto w s R st bv sv) (hlim : st.1.length + 20 ≤ 140737488355328)
    (hp : R p.block) (hc : w.cell? p = some v) (hv : OptAt w R v o) : Calls Try.prog 62 #[.pointer (some ⟨s, 0, none⟩), .pointer (some p)] w fun e w' => Step s R w (putOpt o st) e w' := by
  have hbase : ∀ (b : Bool) (k : Nat), (R k ∨ k = w.heap.size) → k < (w.alloc (.cells #[.bool b] 4)).heap.size := fun b k hk => by
    rcases hk with hk | hk
    · have := h.base k hk; simp; omega
    · simp; omega
  have hS : ∀ b : Bool, Sto (w.alloc (.cells #[.bool b] 4)) s (fun k => R k ∨ k = w.heap.size) st bv sv := fun b =>
    have ha := h.alloc (.cells #[.bool b] 4)
    ⟨ha.box, ha.bytes, fun k hk hn => hn.elim (h.bat k hk) (fun e => by have := own_lt h.bytes k hk; omega), ha.strs, fun k hk hn => hn.elim (h.sat k hk) (fun e => by have := own_lt h.strs k hk; omega),
      fun hn => hn.elim h.here (fun e => by have := h.lt; omega), hbase b⟩
  have hF : ∀ (b : Bool) (st' : St) (e : Ending) (w' : World), Step s (fun k => R k ∨ k = w.heap.size) (w.alloc (.cells #[.bool b] 4)) st' e w' → e = .returned (.tuple #[]) ∧ w'.cell? ⟨w.heap.size, 0, none⟩ = some (.bool b) ∧ Hid (Step s R w st' e w') := fun b st' e w' ⟨h1, ⟨bv', sv', h2⟩, h3⟩ => by
    refine ⟨h1, ?_, h1, ⟨bv', sv', h2.less fun k hk => .inl hk⟩, ?_⟩
    · exact (h3.cell (p := ⟨w.heap.size, 0, none⟩) (.inr rfl)).trans (by simp)
    · exact ((Fr.refl R w).alloc (fun k hk => h.base k hk) _).trans (h3.less fun k hk => .inl hk)
  cases o with
  | none =>
    have hv : v = .pointer none := hv
    subst hv
    have C := hd (s_flag s _ st bv sv ⟨w.heap.size, 0, none⟩ false _ (hS false) (by omega) (by simp))
    have HF := hd (hF false)
    clear hF hS hbase h
    go_enter Try.func62, Try.ntmps62
    go_wp2_with (go_at_call 59; refine C.out.mono ?_; rintro e w' hst; obtain ⟨rfl, hcell, HR⟩ := HF.out _ _ _ hst; clear hst)
    go_end0
    exact HR.out
  | some x =>
    obtain ⟨a, rfl, ha, hx⟩ := hv
    have C := hd (s_flag s _ st bv sv ⟨w.heap.size, 0, none⟩ true _ (hS true) (by omega) (by simp))
    have HF := hd (hF true)
    have HX := ho x rfl
    clear hF hS hbase h
    go_enter Try.func62, Try.ntmps62
    go_wp2_with (first
      | (go_at_call 60; refine C2.out.mono ?_; rintro e w2 hst; obtain ⟨rfl, h1, h2⟩ := hst)
      | (go_at_call 59; refine C.out.mono ?_; rintro e w' hst; obtain ⟨rfl, hcell, HR⟩ := HF.out _ _ _ hst; clear hst; have hpc := (HR.out.2.2.cell hp).trans hc; have hxc := (HR.out.2.2.cell ha).trans hx; obtain ⟨bv', sv', h3⟩ := HR.out.2.1; have C2 := hd (s_int 60 (.inl rfl) s R _ bv' sv' a x HX.1 HX.2 w' h3 (by simp [putB]; omega) hxc); clear h3))
    go_end0
    exact ⟨rfl, h1, HR.out.2.2.trans h2⟩
end Go.Proofs.Qxb6618929a
