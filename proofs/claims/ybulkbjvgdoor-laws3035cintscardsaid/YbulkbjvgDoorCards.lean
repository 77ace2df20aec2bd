/-
  DERIVED. GIVEN WITH THE SEED: THE CARDS: each row of YbulkbjvgDoorRows.lean that lists a variable, with what it lists TIED to the program's text (the seventh form; the later family's looks); each row that meets fmt, with fmt's text TOLD by the authors' own Lean function (tested against real Go, not proved from fmt's source: count such statements apart). THE CARD IS WHAT COUNTS. Prove the row's statement (the work); the ties are given (YbulkbjvgDoorTie.lean); close each card by the builder's one call (the guide's Derived/Test/ToyasCard.lean, 'card_holds'). Laid BY PROGRAM, IN A SANDBOX (cutbox-door.mjs). By AI agents, Wed Nov 11 2026. No macro, syntax, notation, axiom, sorry.
-/
import Derived.Test.YbulkbjvgDoorRows
import GoSem.ClaimSeven
namespace Go.Proofs.YbulkbjvgDoor
namespace Rows

/-- THE TIED CARD OF 'check.LawS3035CInts'. -/
def lawS3035CIntsCard : Claim7 := { stood := { row := lawS3035CIntsRow, standIns := [], harness := (true, "3d436e61d371817b34fd81285c4a572dada4f925fe9de07e6e8410361cdd9f2a"), looks := false }, kinds := [], alts := [], laidByText := true, laidKinds := [.sentinel], laidTests := true, laidLooks := .later }
def LawS3035CIntsCardSaid : Prop := Claim7.holds Ybad.pinned (.plain (OpenSpec.ofChange lawS3035CIntsSpec)) lawS3035CIntsCard

/-- THE TIED CARD OF 'check.LawS3035CMixed'. -/
def lawS3035CMixedCard : Claim7 := { stood := { row := lawS3035CMixedRow, standIns := [], harness := (true, "3d436e61d371817b34fd81285c4a572dada4f925fe9de07e6e8410361cdd9f2a"), looks := false }, kinds := [], alts := [], laidByText := true, laidKinds := [.sentinel], laidTests := true, laidLooks := .later }
def LawS3035CMixedCardSaid : Prop := Claim7.holds Ybad.pinned (.plain (OpenSpec.ofChange lawS3035CMixedSpec)) lawS3035CMixedCard
end Rows
end Go.Proofs.YbulkbjvgDoor
