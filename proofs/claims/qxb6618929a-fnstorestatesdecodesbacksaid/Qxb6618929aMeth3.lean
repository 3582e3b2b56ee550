/-
  THE STORER's SMALL METHODS: bit, flag.
-/
import Derived.Test.Qxb6618929aMeth2
import Derived.Deep.RegionHeldLaw
import Derived.Deep.RegionLaw
namespace Go.Proofs.Qxb6618929a
open Go Go.RowKit

theorem bit67 (b : Bool) (f : Int) (w : World) : Calls Try.prog 67 #[.bool b, .int .u8 f] w fun e w' => e = .returned (.int .u8 (if b then f else 0)) ∧ w = w' := by
  cases b
  · go_enter Try.func67, Try.ntmps67
    go_wp2
    go_ret
    exact ⟨rfl, rfl⟩
  · go_enter Try.func67, Try.ntmps67
    go_wp2
    go_ret
    exact ⟨rfl, rfl⟩
theorem bit67k (b : Bool) (f : Nat) (g : UInt8) (hg : g.toNat = f) (w : World) : Calls Try.prog 67 #[.bool b, .int .u8 f] w fun e w' => e = .returned (.int .u8 ((bitB b g).toNat : Int)) ∧ w = w' :=
  (bit67 b f w).mono fun e w' ⟨h1, h2⟩ => ⟨by rw [h1]; cases b <;> simp [bitB, hg], h2⟩
end Go.Proofs.Qxb6618929a
