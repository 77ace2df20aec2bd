/-
  No cell of these rows narrows 'for every input' (looked for: loops, veiled, ifaces, maps, wideKeys, modest, calm, conditions, laid).
  DERIVED. THE GIVEN ROWS OF THIS SEAT. 2 by the template 'for every input the law returns true; each argument reads behind the call as it read before'; 0 by the template 'total and deterministic' (their statements: YbulkbjtqFmtTotals.lean).
  GIVEN WITH THE SEED: the statements are not yours to turn. If you find one false, say at which input.
  Laid BY PROGRAM, IN A SANDBOX (cutbox-rows.mjs): the forced cells as the released guide's own fill.sh prints them over the translation a5dc4e72e83423ee… (all of the seat's roots in one cut). By AI agents, Wed Nov 11 2026. No macro, syntax, notation, axiom, sorry.
-/
import Derived.Test.YbulkbjtqFmtChecked
import GoSem.Claim
import GoSem.ClaimJoined
import GoSem.ClaimMapViews
import Derived.JoinedTies
import Derived.KernelRfl
namespace Go.Proofs.YbulkbjtqFmt
/- THE CELL 'sum', in the pinned program and in every row, IS THE sha256 OF THE DUMP (.gsa) THAT YbulkbjtqFmtProg.lean LOADS. Nothing in Lean hashes anything: it is a label: what it is worth is what the hold of that sum in a sandbox is worth. -/
noncomputable def Ybaf.pinned : Pinned := { name := "ybulkbjtqfmt", sum := "a5dc4e72e83423eef00a5a1a724235b194b795051d9d71cb8de24b33dbbca0e8", checked := Ybaf.checked }
namespace Rows
def none {H : Type} : Left H := { results := [], args := [] }

/-- 'plan.LawS3032AEmptyRefused': WHATEVER THE INPUT: true; the input reads as it did. -/
def lawS3032AEmptyRefusedSpec : ChangeSpec := { name := "lawS3032AEmptyRefused", fn := fun _ => fun
  | [d1, d2] => { results := [.lit (.bool true)], args := [d1, d2] }
  | _ => none }
def lawS3032AEmptyRefusedRow : OpenClaim := { program := "ybulkbjtqfmt", sum := "a5dc4e72e83423eef00a5a1a724235b194b795051d9d71cb8de24b33dbbca0e8", func := "example.com/vestline/vestline/internal/plan.LawS3032AEmptyRefused", spec := "lawS3032AEmptyRefused", stops := ["fmt.errorf"], inPlace := ["fmt.errorf"], apart := false }
/-- NO THEOREM (fmt's text is open here; it may be false): for the released tool's asking of the row's closed facts alone. THE STATEMENT IS 'LawS3032AEmptyRefusedToldSaid' (YbulkbjtqFmtCards.lean). -/
def LawS3032AEmptyRefusedFormAsk : Prop := lawS3032AEmptyRefusedRow.holds Ybaf.pinned (OpenSpec.ofChange lawS3032AEmptyRefusedSpec)

/-- ITS FALSE NEIGHBOUR: 'it returns false'. Refute it at one input. -/
def lawS3032AEmptyRefusedWrong : ChangeSpec := { name := "lawS3032AEmptyRefused", fn := fun _ => fun
  | [d1, d2] => { results := [.lit (.bool false)], args := [d1, d2] }
  | _ => none }
def LawS3032AEmptyRefusedWrongFormAsk : Prop := lawS3032AEmptyRefusedRow.holds Ybaf.pinned (OpenSpec.ofChange lawS3032AEmptyRefusedWrong)

/-- 'plan.LawS3032AOneByteKept': WHATEVER THE INPUT: true; the input reads as it did. -/
def lawS3032AOneByteKeptSpec : ChangeSpec := { name := "lawS3032AOneByteKept", fn := fun _ => fun
  | [d1, d2, d3] => { results := [.lit (.bool true)], args := [d1, d2, d3] }
  | _ => none }
def lawS3032AOneByteKeptRow : OpenClaim := { program := "ybulkbjtqfmt", sum := "a5dc4e72e83423eef00a5a1a724235b194b795051d9d71cb8de24b33dbbca0e8", func := "example.com/vestline/vestline/internal/plan.LawS3032AOneByteKept", spec := "lawS3032AOneByteKept", stops := ["fmt.errorf"], inPlace := ["fmt.errorf"], apart := false }
/-- NO THEOREM (fmt's text is open here; it may be false): for the released tool's asking of the row's closed facts alone. THE STATEMENT IS 'LawS3032AOneByteKeptToldSaid' (YbulkbjtqFmtCards.lean). -/
def LawS3032AOneByteKeptFormAsk : Prop := lawS3032AOneByteKeptRow.holds Ybaf.pinned (OpenSpec.ofChange lawS3032AOneByteKeptSpec)

/-- ITS FALSE NEIGHBOUR: 'it returns false'. Refute it at one input. -/
def lawS3032AOneByteKeptWrong : ChangeSpec := { name := "lawS3032AOneByteKept", fn := fun _ => fun
  | [d1, d2, d3] => { results := [.lit (.bool false)], args := [d1, d2, d3] }
  | _ => none }
def LawS3032AOneByteKeptWrongFormAsk : Prop := lawS3032AOneByteKeptRow.holds Ybaf.pinned (OpenSpec.ofChange lawS3032AOneByteKeptWrong)

end Rows
end Go.Proofs.YbulkbjtqFmt
