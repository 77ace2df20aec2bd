/-
  DERIVED. GIVEN WITH THE SEED: THE CARDS: each row of YbulkbjtqFmtRows.lean that lists a variable, with what it lists TIED to the program's text (the seventh form; the later family's looks); each row that meets fmt, with fmt's text TOLD by the authors' own Lean function (tested against real Go, not proved from fmt's source: count such statements apart). THE CARD IS WHAT COUNTS. Prove the row's statement (the work); the ties are given (YbulkbjtqFmtTie.lean); close each card by the builder's one call (the guide's Derived/Test/ToyasCard.lean, 'card_holds'). Laid BY PROGRAM, IN A SANDBOX (cutbox-door.mjs). By AI agents, Wed Nov 11 2026. No macro, syntax, notation, axiom, sorry.
-/
import Derived.Test.YbulkbjtqFmtRows
import GoSem.ClaimSeven
namespace Go.Proofs.YbulkbjtqFmt
namespace Rows

/-- THE TOLD CARD OF 'plan.LawS3032AEmptyRefused'. -/
def lawS3032AEmptyRefusedCard : Claim7 := { stood := { row := lawS3032AEmptyRefusedRow, standIns := [], harness := (true, "4446e7802af4224a09db9d431d533f0ecb1da08bb953c3d7dd6719f7e76ff1f4"), looks := false }, told := true, goes := false }
def LawS3032AEmptyRefusedToldSaid : Prop := Claim7.holds Ybaf.pinned (.plain (OpenSpec.ofChange lawS3032AEmptyRefusedSpec)) lawS3032AEmptyRefusedCard
/-- ITS FALSE NEIGHBOUR. Refute it at one input. -/
def LawS3032AEmptyRefusedToldWrongFalsely : Prop := Claim7.holds Ybaf.pinned (.plain (OpenSpec.ofChange lawS3032AEmptyRefusedWrong)) lawS3032AEmptyRefusedCard

/-- THE TOLD CARD OF 'plan.LawS3032AOneByteKept'. -/
def lawS3032AOneByteKeptCard : Claim7 := { stood := { row := lawS3032AOneByteKeptRow, standIns := [], harness := (true, "4446e7802af4224a09db9d431d533f0ecb1da08bb953c3d7dd6719f7e76ff1f4"), looks := false }, told := true, goes := false }
def LawS3032AOneByteKeptToldSaid : Prop := Claim7.holds Ybaf.pinned (.plain (OpenSpec.ofChange lawS3032AOneByteKeptSpec)) lawS3032AOneByteKeptCard
/-- ITS FALSE NEIGHBOUR. Refute it at one input. -/
def LawS3032AOneByteKeptToldWrongFalsely : Prop := Claim7.holds Ybaf.pinned (.plain (OpenSpec.ofChange lawS3032AOneByteKeptWrong)) lawS3032AOneByteKeptCard
end Rows
end Go.Proofs.YbulkbjtqFmt
