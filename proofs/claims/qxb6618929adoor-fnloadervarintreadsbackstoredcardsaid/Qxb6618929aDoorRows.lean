/-
  NARROWER THAN 'FOR EVERY INPUT', by the rows' own cells (each row's printed sentence says how): FnLoaderVarintReadsBackStored: ifaces, laid · FnLoaderVarintRefusesCutAndStaysFailed: ifaces, laid.
  DERIVED. THE GIVEN ROWS OF THIS SEAT. 2 by the template 'for every input the law returns true; each argument reads behind the call as it read before'; 0 by the template 'total and deterministic' (their statements: Qxb6618929aDoorTotals.lean).
  GIVEN WITH THE SEED: the statements are not yours to turn. If you find one false, say at which input.
  Laid BY PROGRAM, IN A SANDBOX (cutbox-rows.mjs): the forced cells as the released guide's own fill.sh prints them over the translation a0356290f58eb6fa… (all of the seat's roots in one cut). By AI agents, Wed Nov 11 2026. No macro, syntax, notation, axiom, sorry.
-/
import Derived.Test.Qxb6618929aDoorChecked
import GoSem.Claim
import GoSem.ClaimJoined
import GoSem.ClaimMapViews
import Derived.JoinedTies
import Derived.KernelRfl
namespace Go.Proofs.Qxb6618929aDoor
/- THE CELL 'sum', in the pinned program and in every row, IS THE sha256 OF THE DUMP (.gsa) THAT Qxb6618929aDoorProg.lean LOADS. Nothing in Lean hashes anything: it is a label: what it is worth is what the hold of that sum in a sandbox is worth. -/
noncomputable def Tryd.pinned : Pinned := { name := "qxb6618929adoor", sum := "a0356290f58eb6faa57d4ad1037435380d20d6e176d8f91fd736318e1b8c0787", checked := Tryd.checked }
namespace Rows
def none {H : Type} : Left H := { results := [], args := [] }

/- WHAT THE LISTED PACKAGE-LEVEL VARIABLES READ AS WHEN THE CALL BEGINS. Each datum BY PROGRAM (the guide's laid-datum.mjs) off the statement by which the dump's own 'gosem.cut.vars' lays the variable. In a bare row this is a premise. The card (Qxb6618929aDoorCards.lean) ties it to the program's text. -/
def laid_example_com_flopwire_flopwire_protocol_errStored {H : Type} : DataW H := .iface "*errors.errorString" (.ptr (.agg [.lit (.string [115, 116, 111, 114, 101, 100, 32, 115, 116, 97, 116, 101, 115, 32, 101, 110, 100, 32, 115, 104, 111, 114, 116, 32, 111, 114, 32, 104, 111, 108, 100, 32, 97, 32, 118, 97, 108, 117, 101, 32, 111, 117, 116, 32, 111, 102, 32, 114, 97, 110, 103, 101])]))

/-- 'zzlaws_protocol_b1.FnLoaderVarintReadsBackStored': WHATEVER THE INPUT: true; the input reads as it did. -/
def fnLoaderVarintReadsBackStoredSpec : ChangeSpec := { name := "fnLoaderVarintReadsBackStored", vars := ["example.com/flopwire/flopwire/protocol.errStored"], fn := fun _ => fun
  | [d1, d2, d3, g1] => { results := [.lit (.bool true)], args := [d1, d2, d3], vars := [g1] }
  | _ => none }
def fnLoaderVarintReadsBackStoredRow : OpenClaim := { program := "qxb6618929adoor", sum := "a0356290f58eb6faa57d4ad1037435380d20d6e176d8f91fd736318e1b8c0787", func := "example.com/flopwire/flopwire/zzlaws_protocol_b1.FnLoaderVarintReadsBackStored", spec := "fnLoaderVarintReadsBackStored", named := ["example.com/flopwire/flopwire/protocol.errStored"], ifaces := true, apart := false, laid := [("example.com/flopwire/flopwire/protocol.errStored", laid_example_com_flopwire_flopwire_protocol_errStored)] }
def FnLoaderVarintReadsBackStoredSaid : Prop := fnLoaderVarintReadsBackStoredRow.holds Tryd.pinned (OpenSpec.ofChange fnLoaderVarintReadsBackStoredSpec)

/-- ITS FALSE NEIGHBOUR: 'it returns false'. Refute it at one input. -/
def fnLoaderVarintReadsBackStoredWrong : ChangeSpec := { name := "fnLoaderVarintReadsBackStored", vars := ["example.com/flopwire/flopwire/protocol.errStored"], fn := fun _ => fun
  | [d1, d2, d3, g1] => { results := [.lit (.bool false)], args := [d1, d2, d3], vars := [g1] }
  | _ => none }
def FnLoaderVarintReadsBackStoredWrongFalsely : Prop := fnLoaderVarintReadsBackStoredRow.holds Tryd.pinned (OpenSpec.ofChange fnLoaderVarintReadsBackStoredWrong)

/-- 'zzlaws_protocol_b1.FnLoaderVarintRefusesCutAndStaysFailed': WHATEVER THE INPUT: true; the input reads as it did. -/
def fnLoaderVarintRefusesCutAndStaysFailedSpec : ChangeSpec := { name := "fnLoaderVarintRefusesCutAndStaysFailed", vars := ["example.com/flopwire/flopwire/protocol.errStored"], fn := fun _ => fun
  | [d1, d2, d3, g1] => { results := [.lit (.bool true)], args := [d1, d2, d3], vars := [g1] }
  | _ => none }
def fnLoaderVarintRefusesCutAndStaysFailedRow : OpenClaim := { program := "qxb6618929adoor", sum := "a0356290f58eb6faa57d4ad1037435380d20d6e176d8f91fd736318e1b8c0787", func := "example.com/flopwire/flopwire/zzlaws_protocol_b1.FnLoaderVarintRefusesCutAndStaysFailed", spec := "fnLoaderVarintRefusesCutAndStaysFailed", named := ["example.com/flopwire/flopwire/protocol.errStored"], ifaces := true, apart := false, laid := [("example.com/flopwire/flopwire/protocol.errStored", laid_example_com_flopwire_flopwire_protocol_errStored)] }
def FnLoaderVarintRefusesCutAndStaysFailedSaid : Prop := fnLoaderVarintRefusesCutAndStaysFailedRow.holds Tryd.pinned (OpenSpec.ofChange fnLoaderVarintRefusesCutAndStaysFailedSpec)

/-- ITS FALSE NEIGHBOUR: 'it returns false'. Refute it at one input. -/
def fnLoaderVarintRefusesCutAndStaysFailedWrong : ChangeSpec := { name := "fnLoaderVarintRefusesCutAndStaysFailed", vars := ["example.com/flopwire/flopwire/protocol.errStored"], fn := fun _ => fun
  | [d1, d2, d3, g1] => { results := [.lit (.bool false)], args := [d1, d2, d3], vars := [g1] }
  | _ => none }
def FnLoaderVarintRefusesCutAndStaysFailedWrongFalsely : Prop := fnLoaderVarintRefusesCutAndStaysFailedRow.holds Tryd.pinned (OpenSpec.ofChange fnLoaderVarintRefusesCutAndStaysFailedWrong)

end Rows
end Go.Proofs.Qxb6618929aDoor
