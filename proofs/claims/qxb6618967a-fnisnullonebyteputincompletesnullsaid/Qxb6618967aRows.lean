/-
  No cell of these rows narrows 'for every input' (looked for: loops, veiled, ifaces, maps, wideKeys, modest, calm, conditions, laid).
  DERIVED. THE GIVEN ROWS OF THIS SEAT. 2 by the template 'for every input the law returns true; each argument reads behind the call as it read before'; 0 by the template 'total and deterministic' (their statements: Qxb6618967aTotals.lean).
  GIVEN WITH THE SEED: the statements are not yours to turn. If you find one false, say at which input.
  Laid BY PROGRAM, IN A SANDBOX (cutbox-rows.mjs): the forced cells as the released guide's own fill.sh prints them over the translation 9ce613b0134cbbae… (all of the seat's roots in one cut). By AI agents, Wed Nov 11 2026. No macro, syntax, notation, axiom, sorry.
-/
import Derived.Test.Qxb6618967aChecked
import GoSem.Claim
import GoSem.ClaimJoined
import GoSem.ClaimMapViews
import Derived.JoinedTies
import Derived.KernelRfl
namespace Go.Proofs.Qxb6618967a
/- THE CELL 'sum', in the pinned program and in every row, IS THE sha256 OF THE DUMP (.gsa) THAT Qxb6618967aProg.lean LOADS. Nothing in Lean hashes anything: it is a label: what it is worth is what the hold of that sum in a sandbox is worth. -/
noncomputable def Try.pinned : Pinned := { name := "qxb6618967a", sum := "9ce613b0134cbbae0a0afae566bf3d916b7629b122e93a5f175afd69531da8d2", checked := Try.checked }
namespace Rows
def none {H : Type} : Left H := { results := [], args := [] }

/-- 'zzlaws_internal_jsonobject_b1.FnIsNullOneBytePutInCompletesNull': WHATEVER THE INPUT: true; the input reads as it did. -/
def fnIsNullOneBytePutInCompletesNullSpec : ChangeSpec := { name := "fnIsNullOneBytePutInCompletesNull", fn := fun _ => fun
  | [d1, d2] => { results := [.lit (.bool true)], args := [d1, d2] }
  | _ => none }
def fnIsNullOneBytePutInCompletesNullRow : OpenClaim := { program := "qxb6618967a", sum := "9ce613b0134cbbae0a0afae566bf3d916b7629b122e93a5f175afd69531da8d2", func := "example.com/hybrd/hybrd/zzlaws_internal_jsonobject_b1.FnIsNullOneBytePutInCompletesNull", spec := "fnIsNullOneBytePutInCompletesNull", apart := false }
def FnIsNullOneBytePutInCompletesNullSaid : Prop := fnIsNullOneBytePutInCompletesNullRow.holds Try.pinned (OpenSpec.ofChange fnIsNullOneBytePutInCompletesNullSpec)

/-- ITS FALSE NEIGHBOUR: 'it returns false'. Refute it at one input. -/
def fnIsNullOneBytePutInCompletesNullWrong : ChangeSpec := { name := "fnIsNullOneBytePutInCompletesNull", fn := fun _ => fun
  | [d1, d2] => { results := [.lit (.bool false)], args := [d1, d2] }
  | _ => none }
def FnIsNullOneBytePutInCompletesNullWrongFalsely : Prop := fnIsNullOneBytePutInCompletesNullRow.holds Try.pinned (OpenSpec.ofChange fnIsNullOneBytePutInCompletesNullWrong)

/-- 'zzlaws_internal_jsonobject_b1.FnIsNullAcceptsOnlyTheFourBytePrefixNull': WHATEVER THE INPUT: true; the input reads as it did. -/
def fnIsNullAcceptsOnlyTheFourBytePrefixNullSpec : ChangeSpec := { name := "fnIsNullAcceptsOnlyTheFourBytePrefixNull", fn := fun _ => fun
  | [d] => { results := [.lit (.bool true)], args := [d] }
  | _ => none }
def fnIsNullAcceptsOnlyTheFourBytePrefixNullRow : OpenClaim := { program := "qxb6618967a", sum := "9ce613b0134cbbae0a0afae566bf3d916b7629b122e93a5f175afd69531da8d2", func := "example.com/hybrd/hybrd/zzlaws_internal_jsonobject_b1.FnIsNullAcceptsOnlyTheFourBytePrefixNull", spec := "fnIsNullAcceptsOnlyTheFourBytePrefixNull", apart := false }
def FnIsNullAcceptsOnlyTheFourBytePrefixNullSaid : Prop := fnIsNullAcceptsOnlyTheFourBytePrefixNullRow.holds Try.pinned (OpenSpec.ofChange fnIsNullAcceptsOnlyTheFourBytePrefixNullSpec)

/-- ITS FALSE NEIGHBOUR: 'it returns false'. Refute it at one input. -/
def fnIsNullAcceptsOnlyTheFourBytePrefixNullWrong : ChangeSpec := { name := "fnIsNullAcceptsOnlyTheFourBytePrefixNull", fn := fun _ => fun
  | [d] => { results := [.lit (.bool false)], args := [d] }
  | _ => none }
def FnIsNullAcceptsOnlyTheFourBytePrefixNullWrongFalsely : Prop := fnIsNullAcceptsOnlyTheFourBytePrefixNullRow.holds Try.pinned (OpenSpec.ofChange fnIsNullAcceptsOnlyTheFourBytePrefixNullWrong)

end Rows
end Go.Proofs.Qxb6618967a
