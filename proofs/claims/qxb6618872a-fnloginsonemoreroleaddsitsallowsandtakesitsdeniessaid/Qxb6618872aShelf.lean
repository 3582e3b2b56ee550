/-
  THE SHELF CONTRACTS AT THIS DUMP, in plain words (laid by the kit: lay-plain, lay-iter): slices.Sorted(maps.Keys(m)), maps.Copy, maps.DeleteFunc, slices.ContainsFunc.
-/
import Derived.Shelf.SlIter.Nil
import Derived.Shelf.SortM.Plain
import Derived.Shelf.SortM.SortNone
import Derived.Shelf.SlMaps.Copy
import Derived.Shelf.SlMaps.DeleteFunc
import Derived.Shelf.SlicesQ.IndexFunc
import Derived.Ground.GgzProg
import Derived.Ground.SlgmProg
import Derived.Ground.SlmpProg
import Derived.Ground.SlmdProg
import Derived.Ground.SlgfProg
import Derived.Test.Qxb6618872aProg
namespace Go.Proofs
open Go.RowKit Go.Maps Go.Sort Go.Shelf
def Try.keys23_ren : Go.Shelf.Ren := ⟨fun | 7 => 23 | 10 => 27 | n => n, fun | 23 => 32 | 26 => 9 | 3 => 4 | 28 => 70 | 0 => 0 | 27 => 69 | 33 => 74 | 4 => 4 | n => n, fun | n => n⟩
theorem Try.keys23 : Go.Proofs.SlLaysZ.n7 Try.prog Try.keys23_ren := {
  mixed := by kernel_rfl
  f7 := ⟨Try.f23.name, by decide, Try.func23.trans (congrArg some (by kernel_rfl))⟩
  f10 := ⟨Try.f27.name, by decide, Try.func27.trans (congrArg some (by kernel_rfl))⟩
  t0 := Try.underlying0
  a0 := Try.isAgg0
  z0 := Try.sizeOf0
  v0 := Try.zeroValue0
  t4 := Try.underlying4
  a4 := Try.isAgg4
  z4 := Try.sizeOf4
  v4 := Try.zeroValue4
  t23 := Try.underlying32
  a23 := Try.isAgg32
  z23 := Try.sizeOf32
  v23 := Try.zeroValue32
  t26 := Try.underlying9
  a26 := Try.isAgg9
  z26 := Try.sizeOf9
  v26 := Try.zeroValue9
  t27 := Try.underlying69
  a27 := Try.isAgg69
  z27 := Try.sizeOf69
  v27 := Try.zeroValue69
  t28 := Try.underlying70
  a28 := Try.isAgg70
  z28 := Try.sizeOf70
  v28 := Try.zeroValue70
  t33 := Try.underlying74
  a33 := Try.isAgg74
  z33 := Try.sizeOf74
  v33 := Try.zeroValue74 }
def Try.sorted22_ren : Go.Shelf.Ren := ⟨fun | 6 => 22 | 8 => 25 | 9 => 26 | 11 => 28 | 13 => 30 | 12 => 29 | 23 => 40 | 24 => 41 | 14 => 31 | 15 => 32 | 16 => 33 | 17 => 34 | 18 => 35 | 19 => 36 | 20 => 37 | 21 => 38 | 22 => 39 | 25 => 42 | 26 => 43 | 27 => 44 | 28 => 45 | 29 => 46 | 30 => 47 | 31 => 48 | n => n, fun | 26 => 9 | 28 => 70 | 24 => 23 | 0 => 0 | 3 => 3 | 37 => 78 | 48 => 89 | 50 => 91 | 4 => 4 | 40 => 81 | 39 => 80 | 45 => 86 | 5 => 5 | 9 => 9 | 51 => 92 | 55 => 96 | 57 => 98 | 58 => 99 | 33 => 74 | n => n, fun | n => n⟩
theorem Try.sorted22 : Go.Proofs.SlLaysZ.n6 Try.prog Try.sorted22_ren := {
  mixed := by kernel_rfl
  f6 := ⟨Try.f22.name, by decide, Try.func22.trans (congrArg some (by kernel_rfl))⟩
  f8 := ⟨Try.f25.name, by decide, Try.func25.trans (congrArg some (by kernel_rfl))⟩
  f11 := ⟨Try.f28.name, by decide, Try.func28.trans (congrArg some (by kernel_rfl))⟩
  t0 := Try.underlying0
  a0 := Try.isAgg0
  z0 := Try.sizeOf0
  v0 := Try.zeroValue0
  t24 := Try.underlying23
  a24 := Try.isAgg23
  z24 := Try.sizeOf23
  v24 := Try.zeroValue23
  t26 := Try.underlying9
  a26 := Try.isAgg9
  z26 := Try.sizeOf9
  v26 := Try.zeroValue9
  t28 := Try.underlying70
  a28 := Try.isAgg70
  z28 := Try.sizeOf70
  v28 := Try.zeroValue70
  i26 := by kernel_rfl }
def Try.sort26_ren : Go.Shelf.Ren := ⟨fun | 6 => 26 | 8 => 30 | 9 => 29 | 19 => 40 | 20 => 41 | 21 => 31 | 22 => 32 | 23 => 33 | 24 => 34 | 25 => 35 | 26 => 36 | 27 => 37 | 28 => 38 | 29 => 39 | 36 => 42 | 31 => 43 | 32 => 44 | 37 => 45 | 38 => 46 | 39 => 47 | 41 => 48 | n => n, fun | 27 => 23 | 29 => 9 | 3 => 3 | 32 => 78 | 26 => 23 | 0 => 0 | 44 => 89 | 46 => 91 | 4 => 4 | 36 => 81 | 35 => 80 | 41 => 86 | 5 => 5 | 9 => 9 | 53 => 92 | 57 => 96 | 63 => 98 | 64 => 99 | n => n, fun | n => n⟩
theorem Try.sort26 : Go.Proofs.SlLaysM.n6 Try.prog Try.sort26_ren := {
  mixed := by kernel_rfl
  f6 := ⟨Try.f26.name, by decide, Try.func26.trans (congrArg some (by kernel_rfl))⟩
  f8 := Try.func30.trans (congrArg some (by kernel_rfl))
  f9 := ⟨Try.f29.name, by decide, Try.func29.trans (congrArg some (by kernel_rfl))⟩
  f19 := Try.func40.trans (congrArg some (by kernel_rfl))
  f20 := Try.func41.trans (congrArg some (by kernel_rfl))
  f21 := ⟨Try.f31.name, by decide, Try.func31.trans (congrArg some (by kernel_rfl))⟩
  f22 := ⟨Try.f32.name, by decide, Try.func32.trans (congrArg some (by kernel_rfl))⟩
  f23 := ⟨Try.f33.name, by decide, Try.func33.trans (congrArg some (by kernel_rfl))⟩
  f24 := ⟨Try.f34.name, by decide, Try.func34.trans (congrArg some (by kernel_rfl))⟩
  f25 := ⟨Try.f35.name, by decide, Try.func35.trans (congrArg some (by kernel_rfl))⟩
  f26 := ⟨Try.f36.name, by decide, Try.func36.trans (congrArg some (by kernel_rfl))⟩
  f27 := ⟨Try.f37.name, by decide, Try.func37.trans (congrArg some (by kernel_rfl))⟩
  f28 := ⟨Try.f38.name, by decide, Try.func38.trans (congrArg some (by kernel_rfl))⟩
  f29 := ⟨Try.f39.name, by decide, Try.func39.trans (congrArg some (by kernel_rfl))⟩
  f31 := Try.func43.trans (congrArg some (by kernel_rfl))
  f32 := Try.func44.trans (congrArg some (by kernel_rfl))
  f36 := ⟨Try.f42.name, by decide, Try.func42.trans (congrArg some (by kernel_rfl))⟩
  f37 := ⟨Try.f45.name, by decide, Try.func45.trans (congrArg some (by kernel_rfl))⟩
  f38 := ⟨Try.f46.name, by decide, Try.func46.trans (congrArg some (by kernel_rfl))⟩
  f39 := ⟨Try.f47.name, by decide, Try.func47.trans (congrArg some (by kernel_rfl))⟩
  f41 := ⟨Try.f48.name, by decide, Try.func48.trans (congrArg some (by kernel_rfl))⟩
  t0 := Try.underlying0
  a0 := Try.isAgg0
  z0 := Try.sizeOf0
  v0 := Try.zeroValue0
  t3 := Try.underlying3
  a3 := Try.isAgg3
  z3 := Try.sizeOf3
  v3 := Try.zeroValue3
  t4 := Try.underlying4
  a4 := Try.isAgg4
  z4 := Try.sizeOf4
  v4 := Try.zeroValue4
  t5 := Try.underlying5
  a5 := Try.isAgg5
  z5 := Try.sizeOf5
  v5 := Try.zeroValue5
  t9 := Try.underlying9
  a9 := Try.isAgg9
  z9 := Try.sizeOf9
  v9 := Try.zeroValue9
  t26 := Try.underlying23
  a26 := Try.isAgg23
  z26 := Try.sizeOf23
  v26 := Try.zeroValue23
  t27 := Try.underlying23
  a27 := Try.isAgg23
  z27 := Try.sizeOf23
  v27 := Try.zeroValue23
  t29 := Try.underlying9
  a29 := Try.isAgg9
  z29 := Try.sizeOf9
  v29 := Try.zeroValue9
  t32 := Try.underlying78
  a32 := Try.isAgg78
  z32 := Try.sizeOf78
  v32 := Try.zeroValue78
  t35 := Try.underlying80
  a35 := Try.isAgg80
  z35 := Try.sizeOf80
  v35 := Try.zeroValue80
  t36 := Try.underlying81
  a36 := Try.isAgg81
  z36 := Try.sizeOf81
  v36 := Try.zeroValue81
  t41 := Try.underlying86
  a41 := Try.isAgg86
  z41 := Try.sizeOf86
  v41 := Try.zeroValue86
  t44 := Try.underlying89
  a44 := Try.isAgg89
  z44 := Try.sizeOf89
  v44 := Try.zeroValue89
  t46 := Try.underlying91
  a46 := Try.isAgg91
  z46 := Try.sizeOf91
  v46 := Try.zeroValue91
  t53 := Try.underlying92
  a53 := Try.isAgg92
  z53 := Try.sizeOf92
  v53 := Try.zeroValue92
  t57 := Try.underlying96
  a57 := Try.isAgg96
  z57 := Try.sizeOf96
  v57 := Try.zeroValue96
  t63 := Try.underlying98
  a63 := Try.isAgg98
  z63 := Try.sizeOf98
  v63 := Try.zeroValue98
  t64 := Try.underlying99
  a64 := Try.isAgg99
  z64 := Try.sizeOf99
  v64 := Try.zeroValue99 }
def Try.copy17_ren : Go.Shelf.Ren := ⟨fun | 5 => 17 | n => n, fun | 23 => 32 | 24 => 32 | 26 => 9 | 27 => 4 | 0 => 0 | 4 => 4 | n => n, fun | n => n⟩
theorem Try.copy17 : Go.Proofs.SlLaysX.n5 Try.prog Try.copy17_ren := {
  mixed := by kernel_rfl
  f5 := ⟨Try.f17.name, by decide, Try.func17.trans (congrArg some (by kernel_rfl))⟩
  t0 := Try.underlying0
  a0 := Try.isAgg0
  z0 := Try.sizeOf0
  v0 := Try.zeroValue0
  t4 := Try.underlying4
  a4 := Try.isAgg4
  z4 := Try.sizeOf4
  v4 := Try.zeroValue4
  t23 := Try.underlying32
  a23 := Try.isAgg32
  z23 := Try.sizeOf32
  v23 := Try.zeroValue32
  t24 := Try.underlying32
  a24 := Try.isAgg32
  z24 := Try.sizeOf32
  v24 := Try.zeroValue32
  a26 := Try.isAgg9
  z26 := Try.sizeOf9
  a27 := Try.isAgg4
  z27 := Try.sizeOf4 }
def Try.del18_ren : Go.Shelf.Ren := ⟨fun | 5 => 18 | n => n, fun | 23 => 32 | 26 => 9 | 24 => 4 | 27 => 67 | 0 => 0 | 4 => 4 | n => n, fun | n => n⟩
theorem Try.del18 : Go.Proofs.SlLaysDf.n5 Try.prog Try.del18_ren := {
  mixed := by kernel_rfl
  f5 := ⟨Try.f18.name, by decide, Try.func18.trans (congrArg some (by kernel_rfl))⟩
  t0 := Try.underlying0
  a0 := Try.isAgg0
  z0 := Try.sizeOf0
  v0 := Try.zeroValue0
  t4 := Try.underlying4
  a4 := Try.isAgg4
  z4 := Try.sizeOf4
  v4 := Try.zeroValue4
  t23 := Try.underlying32
  a23 := Try.isAgg32
  z23 := Try.sizeOf32
  v23 := Try.zeroValue32
  a24 := Try.isAgg4
  z24 := Try.sizeOf4
  a26 := Try.isAgg9
  z26 := Try.sizeOf9
  t27 := Try.underlying67
  a27 := Try.isAgg67
  z27 := Try.sizeOf67
  v27 := Try.zeroValue67 }
def Try.con20_ren : Go.Shelf.Ren := ⟨fun | 8 => 20 | 6 => 24 | n => n, fun | 22 => 58 | 23 => 56 | 25 => 57 | 4 => 4 | 3 => 3 | 0 => 0 | n => n, fun | n => n⟩
theorem Try.con20 : Go.Proofs.SlLaysH0.n8 Try.prog Try.con20_ren := {
  mixed := by kernel_rfl
  f6 := ⟨Try.f24.name, by decide, Try.func24.trans (congrArg some (by kernel_rfl))⟩
  f8 := ⟨Try.f20.name, by decide, Try.func20.trans (congrArg some (by kernel_rfl))⟩
  t0 := Try.underlying0
  a0 := Try.isAgg0
  z0 := Try.sizeOf0
  v0 := Try.zeroValue0
  t3 := Try.underlying3
  a3 := Try.isAgg3
  z3 := Try.sizeOf3
  v3 := Try.zeroValue3
  t4 := Try.underlying4
  a4 := Try.isAgg4
  z4 := Try.sizeOf4
  v4 := Try.zeroValue4
  t22 := Try.underlying58
  a22 := Try.isAgg58
  z22 := Try.sizeOf58
  v22 := Try.zeroValue58
  t25 := Try.underlying57
  a25 := Try.isAgg57
  z25 := Try.sizeOf57
  v25 := Try.zeroValue57 }

theorem Try.sorts22 (m : Nat) : AnyZ.SortsIn Try.prog Try.sorted22_ren Fence.wide m :=
  ⟨fun blk off cap ss W hH hblk hsz => callsIn_wide.2 (AnyM.slices_Sort_string Try.sort26 blk off cap ss W hH hblk hsz),
   fun p cap W => callsIn_wide.2 (AnyM.slices_Sort_string_none Try.sort26 p cap W)⟩

theorem Try.maps_Keys_23 (mb : Option Nat) (W : World) : CallsIn Fence.wide 5 Try.prog 23 #[.map mb] W fun e w' => e = .returned (.func (.func 27) #[] #[.pointer (some ⟨W.heap.size, 0, none⟩)]) ∧ w' = W.alloc (.cells #[.map mb] 32) :=
  AnyZ.keys_in Try.keys23 Fence.wide 5 trivial rfl mb W

set_option maxHeartbeats 1000000 in
theorem Try.slices_Sorted_keys_22_23 {H : Type} (b nn : Nat) (D0 : DataW H) (R : Value → Option (DataW H × List MemPlace)) (w : World) (hown : w.ownsMap Try.prog 9 R b nn D0) (hmax : Maps.size D0 ≤ maxLen) (hbytes : Maps.size D0 * 16 ≤ 140737488355328) :
    CallsIn Fence.wide 5 Try.prog 22 #[.func (.func 27) #[] #[.pointer (some ⟨w.heap.size, 0, none⟩)]] (w.alloc (.cells #[.map (some b)] 32)) fun e w' => ∃ (v : Value) (ss : List (List UInt8)), e = .returned v ∧ ss.Perm (strKeys D0) ∧
      w'.ownsRow (w.alloc (.cells #[.map (some b)] 32)).heap.size 9 1 v ss.length ((ss.mergeSort (fun x y => decide (x ≤ y))).map encStr) ∧ (v = .slice none 0 0 ↔ ss = []) ∧ Below (w.alloc (.cells #[.map (some b)] 32)).heap.size (w.alloc (.cells #[.map (some b)] 32)) w' := by
  have hbl := hown.lt
  have hseq : SeqGives Fence.wide 2 Try.prog 27 #[.pointer (some ⟨w.heap.size, 0, none⟩)] encStr (fun ss => ss.Perm (strKeys D0)) (Maps.size D0) (w.alloc (.cells #[.map (some b)] 32)) :=
    AnyZ.keys_gives (ρ := Try.keys23_ren) { Try.keys23 with } Fence.wide _ trivial rfl (by omega) w.heap.size b nn D0 _ (by simp) (by simp) (by
      obtain ⟨es, clock, hb, Ft, hs, hD⟩ := hown
      exact ⟨es, clock, (Below.heap_alloc _ _ b hbl).trans hb, Ft, hs, hD⟩)
  exact AnyZ.sorted_in Try.sorted22 Fence.wide 5 trivial trivial trivial trivial rfl (by omega) (Try.sorts22 _) (enters_of Try.func26 (by kernel_rfl) rfl) 27 #[.pointer (some ⟨w.heap.size, 0, none⟩)] trivial (enters_of Try.func27 (by kernel_rfl) rfl) _ _ hmax hbytes _ hseq


theorem Try.maps_Copy {H : Type} (K : Keyed Try.prog 9) (R : Value → Option (DataW H × List MemPlace)) (bd nd : Nat) (ps : Option Nat) (Dd Ds : DataW H) (w : World) (hd : w.ownsMap Try.prog 9 R bd nd Dd) (hs : SrcOf Try.prog 9 R w ps Ds) (hne : ps ≠ some bd) (hroom : nd + Maps.size Ds ≤ maxLen) :
    Calls Try.prog 17 #[.map (some bd), .map ps] w fun e w' => e = .returned (.tuple #[]) ∧ w'.ownsMap Try.prog 9 R bd (nd + Maps.size Ds) (Lib.mergeD Dd Ds) ∧ w.grownBy w' (some bd) :=
  AnyX.maps_Copy_opt Try.copy17 K R bd nd ps Dd Ds w hd hs hne hroom

theorem Try.maps_DeleteFunc {H : Type} (K : Keyed Try.prog 9) (R : Value → Option (DataW H × List MemPlace)) (pd : Lit → DataW H → Bool) (g : Nat) (cb : Array Value) (b n : Nat) (D : DataW H) (w : World)
    (eg : ∀ args w, (callFunc g args).run Try.prog w = .ok (.enter g args) w) (hown : w.ownsMap Try.prog 9 R b n D)
    (hdel : ∀ (W : World) (key val : Value) (kl : Lit) (yd : DataW H) (yp : List MemPlace), w.grownBy W (some b) → keyOf Try.prog 9 key = some kl → R val = some (yd, yp) →
      Calls Try.prog g (#[key, val] ++ cb) W fun e w' => e = .returned (.bool (pd kl yd)) ∧ W.grownBy w' none) :
    Calls Try.prog 18 #[.map (some b), .func (.func g) #[] cb] w fun e w' => e = .returned (.tuple #[]) ∧ w'.ownsMap Try.prog 9 R b n (Lib.deleteFuncD pd D) ∧ w.grownBy w' (some b) :=
  AnyDf.maps_DeleteFunc Try.del18 K R pd g cb b n D w eg hown hdel

theorem Try.slices_ContainsFunc {α : Type} [Inhabited α] (enc : α → List Value) (hk : ∀ x, (enc x).length = 30)
    (p : α → Bool) (g : Nat) (lb : Array Value) (eg : ∀ args w, (callFunc g args).run Try.prog w = .ok (.enter g args) w) (b off n c : Nat) (zs : List α) (w : World)
    (hp : PredBelow Try.prog g lb (fun x => .agg (enc x).toArray) p w) (hz : n ≤ zs.length) (hbig : n ≤ 9223372036854775807) (hb : b < w.heap.size)
    (hc : ∀ j, j < zs.length → ∀ i v, (enc zs[j]!)[i]? = some v → w.cell? ⟨b, off + j * 30 + i, none⟩ = some v) :
    Calls Try.prog 20 #[.slice (some ⟨b, off, none⟩) n c, .func (.func g) #[] lb] w fun e w' => e = .returned (.bool ((zs.take n).any p)) ∧ Below w.heap.size w w' :=
  AnyQ.slices_ContainsFunc Try.con20 30 Try.isAgg56 Try.sizeOf56 enc hk p g lb eg b off n c zs w hp hz hbig hb hc
end Go.Proofs
