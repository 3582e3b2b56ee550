/-
  DERIVED. GIVEN WITH THE SEED: THE CARDS: each row of Qxb6618929aDoorRows.lean that lists a variable, with what it lists TIED to the program's text (the seventh form; the later family's looks); each row that meets fmt, with fmt's text TOLD by the authors' own Lean function (tested against real Go, not proved from fmt's source: count such statements apart). THE CARD IS WHAT COUNTS. Prove the row's statement (the work); the ties are given (Qxb6618929aDoorTie.lean); close each card by the builder's one call (the guide's Derived/Test/ToyasCard.lean, 'card_holds'). Laid BY PROGRAM, IN A SANDBOX (cutbox-door.mjs). By AI agents, Wed Nov 11 2026. No macro, syntax, notation, axiom, sorry.
-/
import Derived.Test.Qxb6618929aDoorRows
import GoSem.ClaimSeven
namespace Go.Proofs.Qxb6618929aDoor
namespace Rows

/-- THE TIED CARD OF 'zzlaws_protocol_b1.FnLoaderVarintReadsBackStored'. -/
def fnLoaderVarintReadsBackStoredCard : Claim7 := { stood := { row := fnLoaderVarintReadsBackStoredRow, standIns := [], harness := (true, "1ad58347d4452a59eaded45f7bc6af8d4c04c162a847905119e8d655abb169c0"), looks := false }, kinds := [], alts := [], laidByText := true, laidKinds := [.sentinel], laidTests := true, laidLooks := .later }
def FnLoaderVarintReadsBackStoredCardSaid : Prop := Claim7.holds Tryd.pinned (.plain (OpenSpec.ofChange fnLoaderVarintReadsBackStoredSpec)) fnLoaderVarintReadsBackStoredCard

/-- THE TIED CARD OF 'zzlaws_protocol_b1.FnLoaderVarintRefusesCutAndStaysFailed'. -/
def fnLoaderVarintRefusesCutAndStaysFailedCard : Claim7 := { stood := { row := fnLoaderVarintRefusesCutAndStaysFailedRow, standIns := [], harness := (true, "1ad58347d4452a59eaded45f7bc6af8d4c04c162a847905119e8d655abb169c0"), looks := false }, kinds := [], alts := [], laidByText := true, laidKinds := [.sentinel], laidTests := true, laidLooks := .later }
def FnLoaderVarintRefusesCutAndStaysFailedCardSaid : Prop := Claim7.holds Tryd.pinned (.plain (OpenSpec.ofChange fnLoaderVarintRefusesCutAndStaysFailedSpec)) fnLoaderVarintRefusesCutAndStaysFailedCard
end Rows
end Go.Proofs.Qxb6618929aDoor
