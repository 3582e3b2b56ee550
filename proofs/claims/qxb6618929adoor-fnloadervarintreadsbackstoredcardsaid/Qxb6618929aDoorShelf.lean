/-
  THE SHELF CONTRACTS OF binary.Uvarint AND binary.Varint AT THIS DUMP, in plain words (laid by the kit: lay-shelf, lay-plain).
-/
import Derived.Ground.MnProg
import Derived.Shelf.Bin.Uvarint
import Derived.Shelf.Bin.Varint
import Derived.Shelf.Bin.UvarintEmpty
import Derived.Shelf.Bin.VarintEmpty
import Derived.Test.Qxb6618929aDoorProg
namespace Go.Proofs
open Go.Shelf
def Tryd.laysBin45_ren : Go.Shelf.Ren := ⟨fun | 45 => 24 | n => n, fun | 22 => 23 | 33 => 48 | 3 => 3 | 45 => 49 | 0 => 0 | 5 => 5 | 4 => 4 | n => n, fun | n => n⟩
theorem Tryd.laysBin45 : Go.Proofs.LaysBin.n45 Tryd.prog Tryd.laysBin45_ren := {
  mixed := by kernel_rfl
  f45 := Tryd.func24.trans (congrArg some (by kernel_rfl))
  t0 := Tryd.underlying0
  a0 := Tryd.isAgg0
  z0 := Tryd.sizeOf0
  v0 := Tryd.zeroValue0
  i0 := by kernel_rfl
  t3 := Tryd.underlying3
  a3 := Tryd.isAgg3
  z3 := Tryd.sizeOf3
  v3 := Tryd.zeroValue3
  i3 := by kernel_rfl
  t4 := Tryd.underlying4
  a4 := Tryd.isAgg4
  z4 := Tryd.sizeOf4
  v4 := Tryd.zeroValue4
  i4 := by kernel_rfl
  t5 := Tryd.underlying5
  a5 := Tryd.isAgg5
  z5 := Tryd.sizeOf5
  v5 := Tryd.zeroValue5
  i5 := by kernel_rfl
  t22 := Tryd.underlying23
  a22 := Tryd.isAgg23
  z22 := Tryd.sizeOf23
  v22 := Tryd.zeroValue23
  i22 := by kernel_rfl
  t33 := Tryd.underlying48
  a33 := Tryd.isAgg48
  z33 := Tryd.sizeOf48
  v33 := Tryd.zeroValue48
  i33 := by kernel_rfl
  t45 := Tryd.underlying49
  a45 := Tryd.isAgg49
  z45 := Tryd.sizeOf49
  v45 := Tryd.zeroValue49
  i45 := by kernel_rfl }
open Go.RowKit in
theorem Tryd.binary_Uvarint (g o n c : Nat) (l : List UInt8) (w : World) (hl : l.length = n) (hcell : ∀ j (hj : j < l.length), w.cell? ⟨g, o + j, none⟩ = some (.int .u8 (l[j]).toNat)) :
    Calls Tryd.prog 24 #[.slice (some ⟨g, o, none⟩) n c] w fun e w' => e = .returned (.tuple #[.int .u64 (Lib.uvarintDec l).1, .int .i64 (Lib.uvarintDec l).2]) ∧ w' = w := Any.binary_Uvarint Tryd.laysBin45 g o n c l w hl hcell
def Tryd.laysBin48_ren : Go.Shelf.Ren := ⟨fun | 48 => 21 | 45 => 24 | n => n, fun | 22 => 23 | 2 => 2 | 3 => 3 | 38 => 53 | 33 => 48 | 45 => 49 | 4 => 4 | 0 => 0 | 5 => 5 | n => n, fun | n => n⟩
theorem Tryd.laysBin48 : Go.Proofs.LaysBin.n48 Tryd.prog Tryd.laysBin48_ren := {
  mixed := by kernel_rfl
  f45 := Tryd.func24.trans (congrArg some (by kernel_rfl))
  f48 := Tryd.func21.trans (congrArg some (by kernel_rfl))
  t0 := Tryd.underlying0
  a0 := Tryd.isAgg0
  z0 := Tryd.sizeOf0
  v0 := Tryd.zeroValue0
  i0 := by kernel_rfl
  t2 := Tryd.underlying2
  a2 := Tryd.isAgg2
  z2 := Tryd.sizeOf2
  v2 := Tryd.zeroValue2
  i2 := by kernel_rfl
  t3 := Tryd.underlying3
  a3 := Tryd.isAgg3
  z3 := Tryd.sizeOf3
  v3 := Tryd.zeroValue3
  i3 := by kernel_rfl
  t4 := Tryd.underlying4
  a4 := Tryd.isAgg4
  z4 := Tryd.sizeOf4
  v4 := Tryd.zeroValue4
  i4 := by kernel_rfl
  t5 := Tryd.underlying5
  a5 := Tryd.isAgg5
  z5 := Tryd.sizeOf5
  v5 := Tryd.zeroValue5
  i5 := by kernel_rfl
  t22 := Tryd.underlying23
  a22 := Tryd.isAgg23
  z22 := Tryd.sizeOf23
  v22 := Tryd.zeroValue23
  i22 := by kernel_rfl
  t33 := Tryd.underlying48
  a33 := Tryd.isAgg48
  z33 := Tryd.sizeOf48
  v33 := Tryd.zeroValue48
  i33 := by kernel_rfl
  t38 := Tryd.underlying53
  a38 := Tryd.isAgg53
  z38 := Tryd.sizeOf53
  v38 := Tryd.zeroValue53
  i38 := by kernel_rfl
  t45 := Tryd.underlying49
  a45 := Tryd.isAgg49
  z45 := Tryd.sizeOf49
  v45 := Tryd.zeroValue49
  i45 := by kernel_rfl }
open Go.RowKit in
theorem Tryd.binary_Varint (g o n c : Nat) (l : List UInt8) (w : World) (hl : l.length = n) (hcell : ∀ j (hj : j < l.length), w.cell? ⟨g, o + j, none⟩ = some (.int .u8 (l[j]).toNat)) :
    Calls Tryd.prog 21 #[.slice (some ⟨g, o, none⟩) n c] w fun e w' => e = .returned (.tuple #[.int .i64 (Lib.varintDec l).1, .int .i64 (Lib.varintDec l).2]) ∧ w' = w := Any.binary_Varint Tryd.laysBin48 g o n c l w hl hcell
open Go.RowKit in
theorem Tryd.binary_Uvarint_empty (ao : Option Addr) (c : Nat) (w : World) :
    Calls Tryd.prog 24 #[.slice ao 0 c] w fun e w' => e = .returned (.tuple #[.int .u64 (Lib.uvarintDec []).1, .int .i64 (Lib.uvarintDec []).2]) ∧ w' = w := Any.binary_Uvarint_empty Tryd.laysBin45 ao c w
open Go.RowKit in
theorem Tryd.binary_Varint_empty (ao : Option Addr) (c : Nat) (w : World) :
    Calls Tryd.prog 21 #[.slice ao 0 c] w fun e w' => e = .returned (.tuple #[.int .i64 (Lib.varintDec []).1, .int .i64 (Lib.varintDec []).2]) ∧ w' = w := Any.binary_Varint_empty Tryd.laysBin48 ao c w
end Go.Proofs
