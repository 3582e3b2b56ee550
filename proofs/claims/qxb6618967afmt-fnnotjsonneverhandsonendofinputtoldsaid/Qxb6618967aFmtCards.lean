/-
  DERIVED. GIVEN WITH THE SEED: THE CARDS: each row of Qxb6618967aFmtRows.lean that lists a variable, with what it lists TIED to the program's text (the seventh form; the later family's looks); each row that meets fmt, with fmt's text TOLD by the authors' own Lean function (tested against real Go, not proved from fmt's source: count such statements apart). THE CARD IS WHAT COUNTS. Prove the row's statement (the work); the ties are given (Qxb6618967aFmtTie.lean); close each card by the builder's one call (the guide's Derived/Test/ToyasCard.lean, 'card_holds'). Laid BY PROGRAM, IN A SANDBOX (cutbox-door.mjs). By AI agents, Wed Nov 11 2026. No macro, syntax, notation, axiom, sorry.
-/
import Derived.Test.Qxb6618967aFmtRows
import GoSem.ClaimSeven
namespace Go.Proofs.Qxb6618967aFmt
namespace Rows

/-- THE TOLD AND TIED CARD OF 'zzlaws_internal_jsonobject_b1.FnNotJSONNeverHandsOnEndOfInput'. -/
def fnNotJSONNeverHandsOnEndOfInputCard : Claim7 := { stood := { row := fnNotJSONNeverHandsOnEndOfInputRow, standIns := [], harness := (true, "60ea038a7f0687946754ac9fd027b57b097119f86fe37b0b7ac3771b7c409baa"), looks := true }, told := true, laidByText := true, laidKinds := [.sentinel, .sentinel], laidTests := true, laidLooks := .later, goes := false }
def FnNotJSONNeverHandsOnEndOfInputToldSaid : Prop := Claim7.holds Tryf.pinned (.plain (OpenSpec.ofChange fnNotJSONNeverHandsOnEndOfInputSpec)) fnNotJSONNeverHandsOnEndOfInputCard
/-- ITS FALSE NEIGHBOUR. Refute it at one input. -/
def FnNotJSONNeverHandsOnEndOfInputToldWrongFalsely : Prop := Claim7.holds Tryf.pinned (.plain (OpenSpec.ofChange fnNotJSONNeverHandsOnEndOfInputWrong)) fnNotJSONNeverHandsOnEndOfInputCard
end Rows
end Go.Proofs.Qxb6618967aFmt
