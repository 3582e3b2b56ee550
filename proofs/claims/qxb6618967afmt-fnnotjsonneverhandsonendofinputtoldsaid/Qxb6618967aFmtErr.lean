/-
  fmt.Errorf with one string and no wrap: whatever text F gives, a new *errors.errorString.
-/
import Derived.Test.Qxb6618967aFmtIs
namespace Go.Proofs.Qxb6618967aFmt
open Go Go.RowKit Go.Extern.Stop Go.Stop Go.Extern

theorem Tryf.call17 (args : Array Value) (w : World) : (callFunc 17 args).run Tryf.prog w = ((FmtStop.errorf #[9, 38] #[26] args).run Tryf.prog w).andThen fun v w' => .ok (.value v) w' :=
  run_callFunc_extern Tryf.func17 (by kernel_rfl) (by kernel_rfl) (by kernel_rfl) (by kernel_rfl) args w
theorem Tryf.guard (name : String) (w : World) : (FmtStop.guard name).run Tryf.prog w = .ok () w := by kernel_rfl
def fm1 : ByteArray := ⟨#[37, 115, 32, 105, 115, 32, 110, 111, 116, 32, 118, 97, 108, 105, 100, 32, 74, 83, 79, 78, 58, 32, 105, 116, 32, 105, 115, 32, 101, 109, 112, 116, 121, 32, 111, 114, 32, 99, 117, 116, 32, 115, 104, 111, 114, 116]⟩
def fm2 : ByteArray := ⟨([37, 115, 32, 105, 115, 32, 110, 111, 116, 32, 118, 97, 108, 105, 100, 32, 74, 83, 79, 78, 58, 32, 105, 116, 32, 104, 111, 108, 100, 115, 32, 97, 32, 98, 121, 116, 101, 32].append [111, 114, 100, 101, 114, 32, 109, 97, 114, 107, 32, 40, 85, 43, 70, 69, 70, 70, 41, 32, 111, 117, 116, 115, 105, 100, 101, 32, 105, 116, 115, 32, 115, 116, 114, 105, 110, 103, 115]).toArray⟩
def fms (b : Bool) : ByteArray := if b then fm1 else fm2
theorem Tryf.fmtA (b : Bool) : FmtStop.printed? (fms b) 1 = some [(0, 115, false)] := by cases b <;> kernel_rfl
theorem Tryf.fmtAr (b : Bool) (w : World) : (FmtDoors.printed (fms b) 1).run Tryf.prog w = .ok [(0, 115, false)] w := by cases b <;> kernel_rfl
theorem Tryf.fmtB (b : Bool) : FmtStop.printed? (fms b) 0 = some [] := by cases b <;> kernel_rfl
theorem Tryf.fmtBr (b : Bool) (w : World) : (FmtDoors.printed (fms b) 0).run Tryf.prog w = .ok [] w := by cases b <;> kernel_rfl
def shape9 : List UInt8 := [12, 6, 0, 0, 0, 0, 0, 0, 0, 115, 116, 114, 105, 110, 103]
theorem Tryf.op9_115w (name : String) (x : ByteArray) (w : World) : (FmtStop.operand name true 115 false (.iface 9 (.string x))).run Tryf.prog w = .ok (shape9, FmtStop.pack x.data.toList) w := by kernel_rfl
theorem Tryf.strict9 (name : String) (x : ByteArray) (w : World) : (FmtStop.strict name (.iface 9 (.string x))).run Tryf.prog w = .ok (shape9, FmtStop.pack x.data.toList) w := by kernel_rfl
theorem Tryf.ptr51 (w : World) : (FmtStop.ptrTo "errors.errorString").run Tryf.prog w = .ok 51 w := by kernel_rfl
theorem Tryf.elem51 (w : World) : (elemOf 51).run Tryf.prog w = .ok 53 w := by kernel_rfl
theorem Tryf.isError51 (w : World) : (FmtDoors.textMethod 51 "Error").run Tryf.prog w = .ok true w := by kernel_rfl

attribute [local go_sem] Tryf.call17 Tryf.guard Tryf.fmtA Tryf.fmtAr Tryf.fmtB Tryf.fmtBr Tryf.op9_115w Tryf.strict9 Tryf.ptr51 Tryf.elem51 Tryf.isError51

theorem errorf (F : Interp) (fb : Bool) (s : ByteArray) (b : Nat) (w : World) (hF : F.answers w.tape) (hc : w.cell? ⟨b, 0, none⟩ = some (.iface 9 (.string s))) :
    Calls Tryf.prog 13 #[.string (fms fb), .slice (some ⟨b, 0, none⟩) 1 1] w fun e w' => ∃ t : ByteArray, e = .returned (.iface 51 (.pointer (some ⟨w.heap.size, 0, none⟩))) ∧ w' = (w.alloc (.cells #[.string t] 53)).drew := by
  have hF' := answers_open hF
  go_enter Tryf.func13, Tryf.ntmps13
  go_wp2
  go_ret
  exact ⟨_, rfl, rfl⟩
end Go.Proofs.Qxb6618967aFmt
