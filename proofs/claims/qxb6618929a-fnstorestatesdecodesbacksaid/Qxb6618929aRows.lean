/-
  No cell of these rows narrows 'for every input' (looked for: loops, veiled, ifaces, maps, wideKeys, modest, calm, conditions, laid).
  DERIVED. THE GIVEN ROWS OF THIS SEAT. 3 by the template 'for every input the law returns true; each argument reads behind the call as it read before'; 0 by the template 'total and deterministic' (their statements: Qxb6618929aTotals.lean).
  GIVEN WITH THE SEED: the statements are not yours to turn. If you find one false, say at which input.
  Laid BY PROGRAM, IN A SANDBOX (cutbox-rows.mjs): the forced cells as the released guide's own fill.sh prints them over the translation 5aee3c975a7844a8… (all of the seat's roots in one cut). By AI agents, Wed Nov 11 2026. No macro, syntax, notation, axiom, sorry.
-/
import Derived.Test.Qxb6618929aChecked
import GoSem.Claim
import GoSem.ClaimJoined
import GoSem.ClaimMapViews
import Derived.JoinedTies
import Derived.KernelRfl
namespace Go.Proofs.Qxb6618929a
/- THE CELL 'sum', in the pinned program and in every row, IS THE sha256 OF THE DUMP (.gsa) THAT Qxb6618929aProg.lean LOADS. Nothing in Lean hashes anything: it is a label: what it is worth is what the hold of that sum in a sandbox is worth. -/
noncomputable def Try.pinned : Pinned := { name := "qxb6618929a", sum := "5aee3c975a7844a8e785c598963515d6fb3f988a1476e9a70a611ba70eeea8f8", checked := Try.checked }
namespace Rows
def none {H : Type} : Left H := { results := [], args := [] }

/-- 'zzlaws_protocol_b1.FnPublicBlanksSecretsIdempotent': WHATEVER THE INPUT: true; the input reads as it did. -/
def fnPublicBlanksSecretsIdempotentSpec : ChangeSpec := { name := "fnPublicBlanksSecretsIdempotent", fn := fun _ => fun
  | [d1, d2, d3, d4, d5, d6, d7, d8, d9, d10, d11] => { results := [.lit (.bool true)], args := [d1, d2, d3, d4, d5, d6, d7, d8, d9, d10, d11] }
  | _ => none }
def fnPublicBlanksSecretsIdempotentRow : OpenClaim := { program := "qxb6618929a", sum := "5aee3c975a7844a8e785c598963515d6fb3f988a1476e9a70a611ba70eeea8f8", func := "example.com/flopwire/flopwire/zzlaws_protocol_b1.FnPublicBlanksSecretsIdempotent", spec := "fnPublicBlanksSecretsIdempotent", apart := false }
def FnPublicBlanksSecretsIdempotentSaid : Prop := fnPublicBlanksSecretsIdempotentRow.holds Try.pinned (OpenSpec.ofChange fnPublicBlanksSecretsIdempotentSpec)

/-- ITS FALSE NEIGHBOUR: 'it returns false'. Refute it at one input. -/
def fnPublicBlanksSecretsIdempotentWrong : ChangeSpec := { name := "fnPublicBlanksSecretsIdempotent", fn := fun _ => fun
  | [d1, d2, d3, d4, d5, d6, d7, d8, d9, d10, d11] => { results := [.lit (.bool false)], args := [d1, d2, d3, d4, d5, d6, d7, d8, d9, d10, d11] }
  | _ => none }
def FnPublicBlanksSecretsIdempotentWrongFalsely : Prop := fnPublicBlanksSecretsIdempotentRow.holds Try.pinned (OpenSpec.ofChange fnPublicBlanksSecretsIdempotentWrong)

/-- 'zzlaws_protocol_b1.FnStoreStatesDecodesBack': WHATEVER THE INPUT: true; the input reads as it did. -/
def fnStoreStatesDecodesBackSpec : ChangeSpec := { name := "fnStoreStatesDecodesBack", fn := fun _ => fun
  | [d1, d2] => { results := [.lit (.bool true)], args := [d1, d2] }
  | _ => none }
def fnStoreStatesDecodesBackRow : OpenClaim := { program := "qxb6618929a", sum := "5aee3c975a7844a8e785c598963515d6fb3f988a1476e9a70a611ba70eeea8f8", func := "example.com/flopwire/flopwire/zzlaws_protocol_b1.FnStoreStatesDecodesBack", spec := "fnStoreStatesDecodesBack", unfollowed := true, recurses := true, apart := false }
def FnStoreStatesDecodesBackSaid : Prop := fnStoreStatesDecodesBackRow.holds Try.pinned (OpenSpec.ofChange fnStoreStatesDecodesBackSpec)

/-- ITS FALSE NEIGHBOUR: 'it returns false'. Refute it at one input. -/
def fnStoreStatesDecodesBackWrong : ChangeSpec := { name := "fnStoreStatesDecodesBack", fn := fun _ => fun
  | [d1, d2] => { results := [.lit (.bool false)], args := [d1, d2] }
  | _ => none }
def FnStoreStatesDecodesBackWrongFalsely : Prop := fnStoreStatesDecodesBackRow.holds Try.pinned (OpenSpec.ofChange fnStoreStatesDecodesBackWrong)

/-- 'zzlaws_protocol_b1.FnStoreStatesPrefixStable': WHATEVER THE INPUT: true; the input reads as it did. -/
def fnStoreStatesPrefixStableSpec : ChangeSpec := { name := "fnStoreStatesPrefixStable", fn := fun _ => fun
  | [d1, d2, d3] => { results := [.lit (.bool true)], args := [d1, d2, d3] }
  | _ => none }
def fnStoreStatesPrefixStableRow : OpenClaim := { program := "qxb6618929a", sum := "5aee3c975a7844a8e785c598963515d6fb3f988a1476e9a70a611ba70eeea8f8", func := "example.com/flopwire/flopwire/zzlaws_protocol_b1.FnStoreStatesPrefixStable", spec := "fnStoreStatesPrefixStable", unfollowed := true, recurses := true, apart := false }
def FnStoreStatesPrefixStableSaid : Prop := fnStoreStatesPrefixStableRow.holds Try.pinned (OpenSpec.ofChange fnStoreStatesPrefixStableSpec)

/-- ITS FALSE NEIGHBOUR: 'it returns false'. Refute it at one input. -/
def fnStoreStatesPrefixStableWrong : ChangeSpec := { name := "fnStoreStatesPrefixStable", fn := fun _ => fun
  | [d1, d2, d3] => { results := [.lit (.bool false)], args := [d1, d2, d3] }
  | _ => none }
def FnStoreStatesPrefixStableWrongFalsely : Prop := fnStoreStatesPrefixStableRow.holds Try.pinned (OpenSpec.ofChange fnStoreStatesPrefixStableWrong)

end Rows
end Go.Proofs.Qxb6618929a
