/-
  NARROWER THAN 'FOR EVERY INPUT', by the rows' own cells (each row's printed sentence says how): FnNotJSONNeverHandsOnEndOfInput: laid.
  DERIVED. THE GIVEN ROWS OF THIS SEAT. 1 by the template 'for every input the law returns true; each argument reads behind the call as it read before'; 0 by the template 'total and deterministic' (their statements: Qxb6618967aFmtTotals.lean).
  GIVEN WITH THE SEED: the statements are not yours to turn. If you find one false, say at which input.
  Laid BY PROGRAM, IN A SANDBOX (cutbox-rows.mjs): the forced cells as the released guide's own fill.sh prints them over the translation 22268089f6caf356… (all of the seat's roots in one cut). By AI agents, Wed Nov 11 2026. No macro, syntax, notation, axiom, sorry.
-/
import Derived.Test.Qxb6618967aFmtChecked
import GoSem.Claim
import GoSem.ClaimJoined
import GoSem.ClaimMapViews
import Derived.JoinedTies
import Derived.KernelRfl
namespace Go.Proofs.Qxb6618967aFmt
/- THE CELL 'sum', in the pinned program and in every row, IS THE sha256 OF THE DUMP (.gsa) THAT Qxb6618967aFmtProg.lean LOADS. Nothing in Lean hashes anything: it is a label: what it is worth is what the hold of that sum in a sandbox is worth. -/
noncomputable def Tryf.pinned : Pinned := { name := "qxb6618967afmt", sum := "22268089f6caf356674843d923cdc282786be9ddb427d506d84c5f8ca2ece671", checked := Tryf.checked }
namespace Rows
def none {H : Type} : Left H := { results := [], args := [] }

/- WHAT THE LISTED PACKAGE-LEVEL VARIABLES READ AS WHEN THE CALL BEGINS. Each datum BY PROGRAM (the guide's laid-datum.mjs) off the statement by which the dump's own 'gosem.cut.vars' lays the variable. In a bare row this is a premise. The card (Qxb6618967aFmtCards.lean) ties it to the program's text. -/
def laid_io_EOF {H : Type} : DataW H := .iface "*errors.errorString" (.ptr (.agg [.lit (.string [69, 79, 70])]))
def laid_io_ErrUnexpectedEOF {H : Type} : DataW H := .iface "*errors.errorString" (.ptr (.agg [.lit (.string [117, 110, 101, 120, 112, 101, 99, 116, 101, 100, 32, 69, 79, 70])]))

/-- 'zzlaws_internal_jsonobject_b1.FnNotJSONNeverHandsOnEndOfInput': WHATEVER THE INPUT: true; the input reads as it did. -/
def fnNotJSONNeverHandsOnEndOfInputSpec : ChangeSpec := { name := "fnNotJSONNeverHandsOnEndOfInput", fn := fun _ => fun
  | [d1, d2] => { results := [.lit (.bool true)], args := [d1, d2] }
  | _ => none }
def fnNotJSONNeverHandsOnEndOfInputRow : OpenClaim := { program := "qxb6618967afmt", sum := "22268089f6caf356674843d923cdc282786be9ddb427d506d84c5f8ca2ece671", func := "example.com/hybrd/hybrd/zzlaws_internal_jsonobject_b1.FnNotJSONNeverHandsOnEndOfInput", spec := "fnNotJSONNeverHandsOnEndOfInput", stops := ["fmt.errorf"], inPlace := ["fmt.errorf", "internal/reflectlite.TypeOf"], unfollowed := true, recurses := true, named := ["io.EOF", "io.ErrUnexpectedEOF"], apart := false, laid := [("io.EOF", laid_io_EOF), ("io.ErrUnexpectedEOF", laid_io_ErrUnexpectedEOF)] }
/-- NO THEOREM (fmt's text is open here; it may be false): for the released tool's asking of the row's closed facts alone. THE STATEMENT IS 'FnNotJSONNeverHandsOnEndOfInputToldSaid' (Qxb6618967aFmtCards.lean). -/
def FnNotJSONNeverHandsOnEndOfInputFormAsk : Prop := fnNotJSONNeverHandsOnEndOfInputRow.holds Tryf.pinned (OpenSpec.ofChange fnNotJSONNeverHandsOnEndOfInputSpec)

/-- ITS FALSE NEIGHBOUR: 'it returns false'. Refute it at one input. -/
def fnNotJSONNeverHandsOnEndOfInputWrong : ChangeSpec := { name := "fnNotJSONNeverHandsOnEndOfInput", fn := fun _ => fun
  | [d1, d2] => { results := [.lit (.bool false)], args := [d1, d2] }
  | _ => none }
def FnNotJSONNeverHandsOnEndOfInputWrongFormAsk : Prop := fnNotJSONNeverHandsOnEndOfInputRow.holds Tryf.pinned (OpenSpec.ofChange fnNotJSONNeverHandsOnEndOfInputWrong)

end Rows
end Go.Proofs.Qxb6618967aFmt
