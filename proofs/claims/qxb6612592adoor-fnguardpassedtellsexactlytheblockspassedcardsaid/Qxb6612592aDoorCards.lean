/-
  DERIVED. GIVEN WITH THE SEED: THE CARDS: each row of Qxb6612592aDoorRows.lean that lists a variable, with what it lists TIED to the program's text (the seventh form; the later family's looks); each row that meets fmt, with fmt's text TOLD by the authors' own Lean function (tested against real Go, not proved from fmt's source: count such statements apart). THE CARD IS WHAT COUNTS. Prove the row's statement (the work); the ties are given (Qxb6612592aDoorTie.lean); close each card by the builder's one call (the guide's Derived/Test/ToyasCard.lean, 'card_holds'). Laid BY PROGRAM, IN A SANDBOX (cutbox-door.mjs). By AI agents, Wed Nov 11 2026. No macro, syntax, notation, axiom, sorry.
-/
import Derived.Test.Qxb6612592aDoorRows
import GoSem.ClaimSeven
namespace Go.Proofs.Qxb6612592aDoor
namespace Rows

/-- THE TIED CARD OF 'zzlaws_internal_succinct_b1.FnGuardPassedTellsExactlyTheBlocksPassed'. -/
def fnGuardPassedTellsExactlyTheBlocksPassedCard : Claim7 := { stood := { row := fnGuardPassedTellsExactlyTheBlocksPassedRow, standIns := [], harness := (true, "336016b3c1ff4138e0f59aace7851419b034e67c49fc403d9e5c6c85f579ec2f"), looks := false }, kinds := [], alts := [], laidByText := true, laidKinds := [.data], laidTests := true, laidLooks := .later }
def FnGuardPassedTellsExactlyTheBlocksPassedCardSaid : Prop := Claim7.holds Tryd.pinned (.plain (OpenSpec.ofChange fnGuardPassedTellsExactlyTheBlocksPassedSpec)) fnGuardPassedTellsExactlyTheBlocksPassedCard

/-- THE TIED CARD OF 'zzlaws_internal_succinct_b1.FnGuardPassedAfterReadTellsTheBlocksRead'. -/
def fnGuardPassedAfterReadTellsTheBlocksReadCard : Claim7 := { stood := { row := fnGuardPassedAfterReadTellsTheBlocksReadRow, standIns := [], harness := (true, "336016b3c1ff4138e0f59aace7851419b034e67c49fc403d9e5c6c85f579ec2f"), looks := false }, kinds := [], alts := [], laidByText := true, laidKinds := [.data], laidTests := true, laidLooks := .later }
def FnGuardPassedAfterReadTellsTheBlocksReadCardSaid : Prop := Claim7.holds Tryd.pinned (.plain (OpenSpec.ofChange fnGuardPassedAfterReadTellsTheBlocksReadSpec)) fnGuardPassedAfterReadTellsTheBlocksReadCard
end Rows
end Go.Proofs.Qxb6612592aDoor
