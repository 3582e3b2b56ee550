/-
  strayBOM: nil, or a new error.
-/
import Derived.Test.Qxb6618967aFmtBom
import Derived.Lib.SlBytesConst
namespace Go.Proofs.Qxb6618967aFmt
open Go Go.RowKit Go.Extern.Stop Go.Stop Go.Extern

/-- The value is a new error of errors.New's make, made behind block B. -/
def NewErr (B : Nat) (w : World) (v : Value) : Prop := ∃ (b : Nat) (t : ByteArray), v = .iface 51 (.pointer (some ⟨b, 0, none⟩)) ∧ B ≤ b ∧ w.heap[b]? = some (.cells #[.string t] 53 (0, 0))

theorem cell_marked (w : World) (i : Nat) (v : Value) (h : (#[.int .u8 239, .int .u8 187, .int .u8 191] : Array Value)[i]? = some v) : (w.alloc (.cells #[.int .u8 239, .int .u8 187, .int .u8 191] 5 (3, 4))).cell? ⟨w.heap.size, i, none⟩ = some v := by
  have hg : (w.alloc (.cells #[.int .u8 239, .int .u8 187, .int .u8 191] 5 (3, 4))).heap[w.heap.size]? = some (.cells #[.int .u8 239, .int .u8 187, .int .u8 191] 5 (3, 4)) := by
    show (w.heap.push _)[w.heap.size]? = _
    simp
  rw [cell_of_row _ _ _ _ _ _ hg]
  exact h

theorem heap_last (w : World) (o : Obj) : (w.alloc o).drew.heap[w.heap.size]? = some o := by
  show (w.heap.push o)[w.heap.size]? = some o
  simp

theorem stray_empty (s : ByteArray) (ao : Option Addr) (c : Nat) (w : World) :
    Calls Tryf.prog 12 #[.string s, .slice ao 0 c] w fun e w' => e = .returned .nilIface ∧ w' = w := by
  go_enter Tryf.func12, Tryf.ntmps12
  go_wp2
  refine wp_loop_rounds 1 ?_
  rw [rounds_succ]
  go_wp2
  go_ret
  exact ⟨rfl, rfl⟩

set_option maxRecDepth 100000 in
set_option maxHeartbeats 2000000 in
theorem stray (F : Interp) (s : ByteArray) (b off n c : Nat) (zs : List Int) (w : World) (hF : F.answers w.tape) (hn : n ≤ 1048576) (hnc : n ≤ c) (hc : c ≤ 9223372036854775807) (hz : zs.length = n) (hb : b < w.heap.size)
    (hcell : ∀ i, i < n → w.cell? ⟨b, off + i, none⟩ = some (.int .u8 (zs.getD i 0))) :
    Calls Tryf.prog 12 #[.string s, .slice (some ⟨b, off, none⟩) n c] w fun e w' => (e = .returned .nilIface ∨ ∃ v, e = .returned v ∧ NewErr w.heap.size w' v) ∧ Below w.heap.size w w' := by
  have HC := hd hcell
  have HF := hd hF
  clear hcell hF
  go_enter Tryf.func12, Tryf.ntmps12
  go_wp2
  go_loopw [5, 6] (fun q i wr => ∃ (k : Nat) (r : Bool), k ≤ n + 1 ∧ i = .int .i64 k ∧ q = .bool r ∧ Below w.heap.size w wr) (fun _ i _ => n + 2 - (intOf i).toNat)
  case atStart => exact ⟨0, false, by omega, rfl, rfl, Below.refl _ _⟩
  case round =>
    obtain ⟨k, r, hk, rfl, rfl, hbel⟩ := hrel
    by_cases hlt : k < n
    · have hc1 := (hbel.cell (p := ⟨b, off + k, none⟩) hb).trans (HC.out k hlt)
      have HP := hd (hasPrefix b (off + k) (n - k) (c - k) (wr.heap.size) (zs.drop k) (wr.alloc (.cells #[.int .u8 239, .int .u8 187, .int .u8 191] 5 (3, 4))) (by simp; omega) (by omega) (by omega) (by omega) (fun i hi => by
        have h1 := (((Below.refl wr.heap.size wr).alloc (Nat.le_refl _) (.cells #[.int .u8 239, .int .u8 187, .int .u8 191] 5 (3, 4))).cell (p := ⟨b, off + (k + i), none⟩) (Nat.lt_of_lt_of_le hb hbel.size)).trans ((hbel.cell (p := ⟨b, off + (k + i), none⟩) hb).trans (HC.out (k + i) (by omega)))
        rw [show off + k + i = off + (k + i) by omega, h1]
        simp [List.getD]) (cell_marked wr 0 _ rfl) (cell_marked wr 1 _ rfl) (cell_marked wr 2 _ rfl))
      have HB := hd hbel
      clear hbel
      generalize zs.getD k 0 = z at hc1
      by_cases h34 : z = 34
      · subst h34
        go_wp2
        go_roundw
        case rel => exact ⟨k + 1, !r, by omega, by go_num, rfl, HB.out⟩
        case measure => simp [intOf]; omega
      · by_cases h92 : z = 92
        · subst h92
          cases r
          · go_wp2
            go_roundw
            case rel => exact ⟨k + 1, false, by omega, by go_num, rfl, HB.out⟩
            case measure => simp [intOf]; omega
          · go_wp2
            go_roundw
            case rel => exact ⟨k + 2, true, by omega, by go_num, rfl, HB.out⟩
            case measure => simp [intOf]; omega
        · have hcv : (convert 22 22 (.slice (some ⟨wr.heap.size, 0, none⟩) 3 3)).run Tryf.prog (wr.alloc (.cells #[.int .u8 239, .int .u8 187, .int .u8 191] 5)) = .ok (.slice (some ⟨wr.heap.size, 0, none⟩) 3 3) (wr.alloc (.cells #[.int .u8 239, .int .u8 187, .int .u8 191] 5 (3, 4))) :=
            Lib.run_convert_bytes_const (P := Tryf.prog) wr 22 5 #[.int .u8 239, .int .u8 187, .int .u8 191] 3 3 Tryf.underlying22 Tryf.underlying5
          have HBQ : Hid (Below w.heap.size w (wr.alloc (.cells #[.int .u8 239, .int .u8 187, .int .u8 191] 5 (3, 4)))) := HB.out.alloc HB.out.size _
          have HBR : Hid (Below w.heap.size w ((wr.alloc (.cells #[.int .u8 239, .int .u8 187, .int .u8 191] 5 (3, 4))).alloc (.cells #[.iface 9 (.string s)] 20))) := HBQ.out.alloc HBQ.out.size _
          have HER := hd (errorf F false s (wr.heap.size + 1) ((wr.alloc (.cells #[.int .u8 239, .int .u8 187, .int .u8 191] 5 (3, 4))).alloc (.cells #[.iface 9 (.string s)] 20)) (by rw [HBR.out.tape]; exact HF.out) (by simp))
          cases r
          all_goals
            go_wp2_with (first
              | (go_at_call 16; refine HP.out.mono ?_; rintro e w' ⟨⟨r, rfl⟩, rfl⟩)
              | (go_at_call 13; refine HER.out.mono ?_; rintro e w' ⟨t, rfl, rfl⟩))
            all_goals first
              | (go_roundw
                 case rel => first | exact ⟨k + 1, _, by omega, by go_num, rfl, HBQ.out⟩ | exact ⟨k + 1, _, by omega, by go_num, rfl, HB.out⟩
                 case measure => simp [intOf]; omega)
              | (go_ret
                 exact ⟨.inr ⟨_, rfl, _, t, rfl, (by simpa using HBR.out.size), (by simpa using heap_last ((wr.alloc (.cells #[.int .u8 239, .int .u8 187, .int .u8 191] 5 (3, 4))).alloc (.cells #[.iface 9 (.string s)] 20)) (.cells #[.string t] 53))⟩, (HBR.out.alloc HBR.out.size _).drew⟩)
    · go_wp2
      go_ret
      exact ⟨.inl rfl, hbel⟩
end Go.Proofs.Qxb6618967aFmt
