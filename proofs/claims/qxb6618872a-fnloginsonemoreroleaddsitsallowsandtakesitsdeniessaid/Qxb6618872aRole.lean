/-
  ZZnewRole, ZZnewPolicy.
-/
import Derived.Test.Qxb6618872aSet15
import Derived.Deep.WholeRow
import Derived.Deep.MidRow
namespace Go.Proofs.Qxb6618872a
open Go Go.RowKit

/-- The cells of a compiled role that has a name and two maps of logins. -/
def cells56 (nm : ByteArray) (a d : Option Nat) : Array Value :=
  #[.string nm, .pointer none, .map a, .pointer none, .int .i64 0, .slice none 0 0, .slice none 0 0, .slice none 0 0, .slice none 0 0, .pointer none, .map d, .pointer none, .int .i64 0, .slice none 0 0, .slice none 0 0, .slice none 0 0,
    .slice none 0 0, .int .i64 0, .pointer none, .pointer none, .pointer none, .pointer none, .pointer none, .slice none 0 0, .string ⟨#[]⟩, .slice none 0 0, .string ⟨#[]⟩, .int .i64 0, .slice none 0 0, .slice none 0 0]

/-- The cells of a compiled role at its zero. -/
def zero56 : Array Value := cells56 ⟨#[]⟩ none none

theorem wpList_store_new {P : Program} {ops : Array Oper} {rest : List Oper} {op : Oper} {a : Act} {w : World} {Q : Exit → Act → World → Prop} (hgd : op.guard = none) (ty : TypeId) (x y : Operand) (ho : op.op = .store ty x y)
    (c c' : Array Value) (hx : a.eval x = .pointer (some ⟨w.heap.size, 0, none⟩)) (hy : a.eval y = .agg c') (hi : (P.info? ty).map (·.size) = some c'.size) (hc : c.size = c'.size) (h1 : c'.all (·.oneCell') = true)
    (h : wpList P ops Q rest (a.put op.dst undef) (w.alloc (.cells c' ty))) : wpList P ops Q (op :: rest) a (w.alloc (.cells c ty)) :=
  wpList_plain hgd fun K hK => by
    unfold Oper.wp execOp
    simp only [ho, hx, hy, Instr.storeAt, Instr.sureAddr, Sem.run_bind, Sem.run_pure, Result.andThen_ok, run_storeVar_new w ty c c' hi hc h1]
    exact hK _ _ h

theorem size56 : (Try.prog.info? 56).map (·.size) = some 30 := by kernel_rfl

theorem one56 (nm : ByteArray) (a d : Option Nat) : (cells56 nm a d).all (·.oneCell') = true := by simp [cells56, Value.oneCell']
theorem load56 (w : World) (g : Nat) (nm : ByteArray) (a d : Option Nat) (hg : w.heap[g]? = some (.cells (cells56 nm a d) 56)) : (loadVar 56 ⟨g, 0, none⟩).run Try.prog w = .ok (.agg (cells56 nm a d)) w :=
  run_loadVar_row w g 56 56 (cells56 nm a d) (0, 0) _ hg Try.underlying56 rfl size56

set_option maxRecDepth 100000 in
set_option maxHeartbeats 1000000 in
theorem newRole (nm : ByteArray) (a d : Option Nat) (w : World) :
    Calls Try.prog 14 #[.string nm, .map a, .map d] w fun e w' => e = .returned (.agg (cells56 nm a d)) ∧ w' = w.alloc (.cells (cells56 nm a d) 56) := by
  go_enter Try.func14, Try.ntmps14
  go_wp2_with (refine wpList_store_new rfl 56 _ _ rfl zero56 (cells56 nm a d) rfl rfl size56 rfl (one56 _ _ _) ?_)
  refine bodyPost_ret (v := .agg (cells56 nm a d)) ?_ rfl ⟨rfl, rfl⟩
  have := load56 (w.alloc (.cells (cells56 nm a d) 56)) w.heap.size nm a d (heap_alloc_last w _)
  simp [results, Try.f14, Act.put, asAddr, this]

set_option maxRecDepth 100000 in
theorem newPolicy (ao : Option Addr) (n c : Nat) (w : World) :
    Calls Try.prog 16 #[.slice ao n c] w fun e w' => e = .returned (.pointer (some ⟨w.heap.size, 0, none⟩)) ∧ w' = w.alloc (.cells #[.slice ao n c] 63) := by
  go_enter Try.func16, Try.ntmps16
  go_wp2
  go_ret
  exact ⟨rfl, rfl⟩
end Go.Proofs.Qxb6618872a
