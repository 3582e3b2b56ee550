/-
  No cell of these rows narrows 'for every input' (looked for: loops, veiled, ifaces, maps, wideKeys, modest, calm, conditions, laid).
  DERIVED. THE GIVEN ROWS OF THIS SEAT. 1 by the template 'for every input the law returns true; each argument reads behind the call as it read before'; 0 by the template 'total and deterministic' (their statements: Qxb6618872aTotals.lean).
  GIVEN WITH THE SEED: the statements are not yours to turn. If you find one false, say at which input.
  Laid BY PROGRAM, IN A SANDBOX (cutbox-rows.mjs): the forced cells as the released guide's own fill.sh prints them over the translation d571e668f1a04eda… (all of the seat's roots in one cut). By AI agents, Wed Nov 11 2026. No macro, syntax, notation, axiom, sorry.
-/
import Derived.Test.Qxb6618872aChecked
import GoSem.Claim
import GoSem.ClaimJoined
import GoSem.ClaimMapViews
import Derived.JoinedTies
import Derived.KernelRfl
namespace Go.Proofs.Qxb6618872a
/- THE CELL 'sum', in the pinned program and in every row, IS THE sha256 OF THE DUMP (.gsa) THAT Qxb6618872aProg.lean LOADS. Nothing in Lean hashes anything: it is a label: what it is worth is what the hold of that sum in a sandbox is worth. -/
noncomputable def Try.pinned : Pinned := { name := "qxb6618872a", sum := "d571e668f1a04eda8e628c25ff4efde6ef6d026222678c242ceaf82f23546f8d", checked := Try.checked }
namespace Rows
def none {H : Type} : Left H := { results := [], args := [] }

/-- 'zzlaws_access_b1.FnLoginsOneMoreRoleAddsItsAllowsAndTakesItsDenies': WHATEVER THE INPUT: true; the input reads as it did. -/
def fnLoginsOneMoreRoleAddsItsAllowsAndTakesItsDeniesSpec : ChangeSpec := { name := "fnLoginsOneMoreRoleAddsItsAllowsAndTakesItsDenies", fn := fun _ => fun
  | [d1, d2, d3] => { results := [.lit (.bool true)], args := [d1, d2, d3] }
  | _ => none }
def fnLoginsOneMoreRoleAddsItsAllowsAndTakesItsDeniesRow : OpenClaim := { program := "qxb6618872a", sum := "d571e668f1a04eda8e628c25ff4efde6ef6d026222678c242ceaf82f23546f8d", func := "example.com/neti/neti/zzlaws_access_b1.FnLoginsOneMoreRoleAddsItsAllowsAndTakesItsDenies", spec := "fnLoginsOneMoreRoleAddsItsAllowsAndTakesItsDenies", unfollowed := true, recurses := true, apart := false }
def FnLoginsOneMoreRoleAddsItsAllowsAndTakesItsDeniesSaid : Prop := fnLoginsOneMoreRoleAddsItsAllowsAndTakesItsDeniesRow.holds Try.pinned (OpenSpec.ofChange fnLoginsOneMoreRoleAddsItsAllowsAndTakesItsDeniesSpec)

/-- ITS FALSE NEIGHBOUR: 'it returns false'. Refute it at one input. -/
def fnLoginsOneMoreRoleAddsItsAllowsAndTakesItsDeniesWrong : ChangeSpec := { name := "fnLoginsOneMoreRoleAddsItsAllowsAndTakesItsDenies", fn := fun _ => fun
  | [d1, d2, d3] => { results := [.lit (.bool false)], args := [d1, d2, d3] }
  | _ => none }
def FnLoginsOneMoreRoleAddsItsAllowsAndTakesItsDeniesWrongFalsely : Prop := fnLoginsOneMoreRoleAddsItsAllowsAndTakesItsDeniesRow.holds Try.pinned (OpenSpec.ofChange fnLoginsOneMoreRoleAddsItsAllowsAndTakesItsDeniesWrong)

end Rows
end Go.Proofs.Qxb6618872a
