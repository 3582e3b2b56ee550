/-
  bytes.Equal, bytes.HasPrefix (a Bool each; the world stands), strayBOM.
-/
import Derived.Test.Qxb6618967aFmtErr
namespace Go.Proofs.Qxb6618967aFmt
open Go Go.RowKit Go.Extern.Stop Go.Stop Go.Extern

theorem hd {p : Prop} (h : p) : Hid p := h
/-- A Bool, whichever. -/
def SaysAny (e : Ending) : Prop := ∃ r : Bool, e = .returned (.bool r)

theorem equal19 (b off n c b2 off2 n2 c2 : Nat) (zs zs2 : List Int) (w : World) (hz : zs.length = n) (hz2 : zs2.length = n2)
    (hcell : ∀ i, i < n → w.cell? ⟨b, off + i, none⟩ = some (.int .u8 (zs.getD i 0))) (hcell2 : ∀ i, i < n2 → w.cell? ⟨b2, off2 + i, none⟩ = some (.int .u8 (zs2.getD i 0))) :
    Calls Tryf.prog 19 #[.slice (some ⟨b, off, none⟩) n c, .slice (some ⟨b2, off2, none⟩) n2 c2] w fun e w' => SaysAny e ∧ w' = w := by
  have hr := run_convert_bytes_arg (P := Tryf.prog) w 22 5 Tryf.underlying22 Tryf.underlying5 b off n c zs hz hcell 9 Tryf.underlying9
  have hr2 := run_convert_bytes_arg (P := Tryf.prog) w 22 5 Tryf.underlying22 Tryf.underlying5 b2 off2 n2 c2 zs2 hz2 hcell2 9 Tryf.underlying9
  clear hcell hcell2
  go_enter Tryf.func19, Tryf.ntmps19
  go_wp2
  go_ret
  exact ⟨⟨_, rfl⟩, rfl⟩

theorem hasPrefix (b off n c pb : Nat) (zs : List Int) (w : World) (hz : zs.length = n) (hn : n ≤ 1048576) (hnc : n ≤ c) (hc : c ≤ 9223372036854775807)
    (hcell : ∀ i, i < n → w.cell? ⟨b, off + i, none⟩ = some (.int .u8 (zs.getD i 0))) (h0 : w.cell? ⟨pb, 0, none⟩ = some (.int .u8 239)) (h1 : w.cell? ⟨pb, 1, none⟩ = some (.int .u8 187)) (h2 : w.cell? ⟨pb, 2, none⟩ = some (.int .u8 191)) :
    Calls Tryf.prog 16 #[.slice (some ⟨b, off, none⟩) n c, .slice (some ⟨pb, 0, none⟩) 3 3] w fun e w' => SaysAny e ∧ w' = w := by
  by_cases h3 : 3 ≤ n
  · have CE := hd (equal19 b off 3 c pb 0 3 3 (zs.take 3) [239, 187, 191] w (by simp; omega) rfl (fun i hi => by
      rw [hcell i (by omega)]
      simp [List.getD, hi]) (fun i hi => by
      have : i = 0 ∨ i = 1 ∨ i = 2 := by omega
      rcases this with rfl | rfl | rfl
      · simpa using h0
      · simpa using h1
      · simpa using h2))
    have d3 : (3 : Int) ≤ (n : Int) := by omega
    have hnc' : (3 : Int) ≤ (c : Int) := by omega
    clear hcell h0 h1 h2
    go_enter Tryf.func16, Tryf.ntmps16
    go_wp2_with (go_at_call 19; refine CE.out.mono ?_; rintro e w' ⟨⟨r, rfl⟩, rfl⟩)
    go_ret
    exact ⟨⟨_, rfl⟩, rfl⟩
  · have d3 : (n : Int) < 3 := by omega
    clear hcell h0 h1 h2
    go_enter Tryf.func16, Tryf.ntmps16
    go_wp2
    go_ret
    exact ⟨⟨_, rfl⟩, rfl⟩
end Go.Proofs.Qxb6618967aFmt
