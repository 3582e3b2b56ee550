/-
  The law's function, for every F.
-/
import Derived.Test.Qxb6618967aFmtNot
namespace Go.Proofs.Qxb6618967aFmt
open Go Go.RowKit Go.Extern.Stop Go.Stop Go.Extern

set_option maxHeartbeats 2000000 in
theorem walk (F : Interp) (s : ByteArray) (ao : Option Addr) (n c : Nat) (zs : List Int) (w : World) (a0 a1 : Addr) (c0 c1 : Array Value) (t0 t1 : TypeId) (hF : F.answers w.tape)
    (hs : s.size ≤ 9223372036854775807) (hn : n ≤ 9223372036854775807) (hnil : ao = none → n = 0 ∧ c = 0) (h : BytesAt w ao n zs) (h2 : Two w a0 a1 c0 c1 t0 t1) :
    Calls Tryf.prog 3 #[.string s, .slice ao n c] w fun e w' => e = .returned (.bool true) ∧ Below w.heap.size w w' := by
  have hif : Tryf.prog.isIface 26 = true := by kernel_rfl
  have C4 := hd (bytes4 s ao n c w hs hn)
  have HF := hd hF
  have HBY := hd h
  have HT := hd h2
  have HN := hd hnil
  clear h h2 hF hnil
  by_cases hb : s.size ≤ 65536 ∧ n ≤ 65536
  rotate_left
  · go_enter Tryf.func3, Tryf.ntmps3
    go_wp2_with (first
      | (go_at_call 4; refine C4.out.mono ?_; rintro e w1 ⟨⟨r, rfl⟩, hw⟩; obtain rfl := hw.symm))
    all_goals first
      | (exfalso; omega)
      | (go_ret; exact ⟨rfl, Below.refl _ _⟩)
  obtain ⟨hb1, hb2⟩ := hb
  have HN1 := hd (show n ≤ 1048576 by omega)
  go_enter Tryf.func3, Tryf.ntmps3
  go_wp2_with (first
    | (go_at_call 4; refine C4.out.mono ?_; rintro e w1 ⟨⟨r, rfl⟩, hw⟩; obtain rfl := hw.symm)
    | (go_at_call 9; refine (isUnexpected b2 x2 w4 a0 a1 c0 c1 t0 t1 (HT.out.below HB4.out) HK2.out.1 HK2.out.2.2).mono ?_; rintro e w8 ⟨rfl, hw⟩; obtain rfl := hw.symm)
    | (go_at_call 8; refine (isEOF b2 x2 w4 a0 a1 c0 c1 t0 t1 (HT.out.below HB4.out) HK2.out.1 HK2.out.2.1).mono ?_; rintro e w7 ⟨rfl, hw⟩; obtain rfl := hw.symm)
    | (go_at_call 9; refine (isUnexpected b1 x1 w4 a0 a1 c0 c1 t0 t1 (HT.out.below HB4.out) HK1.out.1 HK1.out.2.2).mono ?_; rintro e w6 ⟨rfl, hw⟩; obtain rfl := hw.symm)
    | (go_at_call 8; refine (isEOF b1 x1 w4 a0 a1 c0 c1 t0 t1 (HT.out.below HB4.out) HK1.out.1 HK1.out.2.1).mono ?_; rintro e w5 ⟨rfl, hw⟩; obtain rfl := hw.symm)
    | (go_at_call 7; refine (notUnexpected F s ad2 n zs w3 a0 a1 c0 c1 t0 t1 (by rw [HB3.out.tape]; exact HF.out) HN1.out HBY3.out (HT.out.below HB3.out)).mono ?_; rintro e w4 ⟨⟨v, rfl, b2, x2, rfl, hB2, hblk2⟩, hbb⟩; have HB4 := hd (HB3.out.trans (hbb.mono HB3.out.size)); have HK2 := hd (show w4.heap[b2]? = some (.cells #[.string x2] 53 (0, 0)) ∧ b2 ≠ a0.block ∧ b2 ≠ a1.block from ⟨hblk2, (fun e => by have := block_lt (HT.out.below HB3.out).b0; omega), (fun e => by have := block_lt (HT.out.below HB3.out).b1; omega)⟩); have HK1 := hd (show w4.heap[b1]? = some (.cells #[.string x1] 53 (0, 0)) ∧ b1 ≠ a0.block ∧ b1 ≠ a1.block from ⟨(hbb.block _ (block_lt HQ1.out.1)).trans HQ1.out.1, HQ1.out.2⟩); clear hB2 hblk2 hbb)
    | (go_at_call 5; refine (clone ao n c zs w2 HN1.out HN.out (HBY.out.below HB2.out)).mono ?_; rintro e w3 ⟨ad2, rfl, hby, hbb⟩; have HB3 := hd (HB2.out.trans (hbb.mono HB2.out.size)); have HBY3 := hd hby; have HQ1 := hd (show w3.heap[b1]? = some (.cells #[.string x1] 53 (0, 0)) ∧ b1 ≠ a0.block ∧ b1 ≠ a1.block from ⟨(hbb.block _ (block_lt HP1.out.1)).trans HP1.out.1, HP1.out.2⟩); clear hby hbb)
    | (go_at_call 6; refine (notEOF F s ad1 n zs w1 a0 a1 c0 c1 t0 t1 (by rw [HB1.out.tape]; exact HF.out) HN1.out HBY1.out (HT.out.below HB1.out)).mono ?_; rintro e w2 ⟨⟨v, rfl, b1, x1, rfl, hB1, hblk1⟩, hbb⟩; have HB2 := hd (HB1.out.trans (hbb.mono HB1.out.size)); have HP1 := hd (show w2.heap[b1]? = some (.cells #[.string x1] 53 (0, 0)) ∧ b1 ≠ a0.block ∧ b1 ≠ a1.block from ⟨hblk1, (fun e => by have := block_lt (HT.out.below HB1.out).b0; omega), (fun e => by have := block_lt (HT.out.below HB1.out).b1; omega)⟩); clear hB1 hblk1 hbb)
    | (go_at_call 5; refine (clone ao n c zs w HN1.out HN.out HBY.out).mono ?_; rintro e w1 ⟨ad1, rfl, hby, hbb⟩; have HB1 := hd hbb; have HBY1 := hd hby; clear hby hbb))
  all_goals go_ret
  all_goals first
    | exact ⟨rfl, Below.refl _ _⟩
    | exact ⟨rfl, HB4.out⟩
end Go.Proofs.Qxb6618967aFmt
