/-
  NARROWER THAN 'FOR EVERY INPUT', by the rows' own cells (each row's printed sentence says how): LawS3035CInts: ifaces, laid · LawS3035CMixed: ifaces, laid.
  DERIVED. THE GIVEN ROWS OF THIS SEAT. 2 by the template 'for every input the law returns true; each argument reads behind the call as it read before'; 0 by the template 'total and deterministic' (their statements: YbulkbjvgDoorTotals.lean).
  GIVEN WITH THE SEED: the statements are not yours to turn. If you find one false, say at which input.
  Laid BY PROGRAM, IN A SANDBOX (cutbox-rows.mjs): the forced cells as the released guide's own fill.sh prints them over the translation 3f43fedb28e3808e… (all of the seat's roots in one cut). By AI agents, Wed Nov 11 2026. No macro, syntax, notation, axiom, sorry.
-/
import Derived.Test.YbulkbjvgDoorChecked
import GoSem.Claim
import GoSem.ClaimJoined
import GoSem.ClaimMapViews
import Derived.JoinedTies
import Derived.KernelRfl
namespace Go.Proofs.YbulkbjvgDoor
/- THE CELL 'sum', in the pinned program and in every row, IS THE sha256 OF THE DUMP (.gsa) THAT YbulkbjvgDoorProg.lean LOADS. Nothing in Lean hashes anything: it is a label: what it is worth is what the hold of that sum in a sandbox is worth. -/
noncomputable def Ybad.pinned : Pinned := { name := "ybulkbjvgdoor", sum := "3f43fedb28e3808ee586103b02d4852a3fd89e8a7cc7be80481ebe868dcbf90b", checked := Ybad.checked }
namespace Rows
def none {H : Type} : Left H := { results := [], args := [] }

/- WHAT THE LISTED PACKAGE-LEVEL VARIABLES READ AS WHEN THE CALL BEGINS. Each datum BY PROGRAM (the guide's laid-datum.mjs) off the statement by which the dump's own 'gosem.cut.vars' lays the variable. In a bare row this is a premise. The card (YbulkbjvgDoorCards.lean) ties it to the program's text. -/
def laid_example_com_lemmacast_lemmacast_internal_check_errProposalsMatter {H : Type} : DataW H := .iface "*errors.errorString" (.ptr (.agg [.lit (.string [99, 104, 101, 99, 107, 58, 32, 97, 32, 115, 116, 101, 112, 32, 100, 101, 112, 101, 110, 100, 115, 32, 111, 110, 32, 119, 104, 97, 116, 32, 116, 104, 101, 32, 112, 114, 111, 99, 101, 115, 115, 101, 115, 32, 112, 114, 111, 112, 111, 115, 101])]))

/-- 'check.LawS3035CInts': WHATEVER THE INPUT: true; the input reads as it did. -/
def lawS3035CIntsSpec : ChangeSpec := { name := "lawS3035CInts", vars := ["example.com/lemmacast/lemmacast/internal/check.errProposalsMatter"], fn := fun _ => fun
  | [d1, d2, d3, d4, g1] => { results := [.lit (.bool true)], args := [d1, d2, d3, d4], vars := [g1] }
  | _ => none }
def lawS3035CIntsRow : OpenClaim := { program := "ybulkbjvgdoor", sum := "3f43fedb28e3808ee586103b02d4852a3fd89e8a7cc7be80481ebe868dcbf90b", func := "example.com/lemmacast/lemmacast/internal/check.LawS3035CInts", spec := "lawS3035CInts", unfollowed := true, recurses := true, named := ["example.com/lemmacast/lemmacast/internal/check.errProposalsMatter"], ifaces := true, apart := false, laid := [("example.com/lemmacast/lemmacast/internal/check.errProposalsMatter", laid_example_com_lemmacast_lemmacast_internal_check_errProposalsMatter)] }
def LawS3035CIntsSaid : Prop := lawS3035CIntsRow.holds Ybad.pinned (OpenSpec.ofChange lawS3035CIntsSpec)

/-- ITS FALSE NEIGHBOUR: 'it returns false'. Refute it at one input. -/
def lawS3035CIntsWrong : ChangeSpec := { name := "lawS3035CInts", vars := ["example.com/lemmacast/lemmacast/internal/check.errProposalsMatter"], fn := fun _ => fun
  | [d1, d2, d3, d4, g1] => { results := [.lit (.bool false)], args := [d1, d2, d3, d4], vars := [g1] }
  | _ => none }
def LawS3035CIntsWrongFalsely : Prop := lawS3035CIntsRow.holds Ybad.pinned (OpenSpec.ofChange lawS3035CIntsWrong)

/-- 'check.LawS3035CMixed': WHATEVER THE INPUT: true; the input reads as it did. -/
def lawS3035CMixedSpec : ChangeSpec := { name := "lawS3035CMixed", vars := ["example.com/lemmacast/lemmacast/internal/check.errProposalsMatter"], fn := fun _ => fun
  | [d1, d2, d3, d4, d5, d6, g1] => { results := [.lit (.bool true)], args := [d1, d2, d3, d4, d5, d6], vars := [g1] }
  | _ => none }
def lawS3035CMixedRow : OpenClaim := { program := "ybulkbjvgdoor", sum := "3f43fedb28e3808ee586103b02d4852a3fd89e8a7cc7be80481ebe868dcbf90b", func := "example.com/lemmacast/lemmacast/internal/check.LawS3035CMixed", spec := "lawS3035CMixed", unfollowed := true, recurses := true, named := ["example.com/lemmacast/lemmacast/internal/check.errProposalsMatter"], ifaces := true, apart := false, laid := [("example.com/lemmacast/lemmacast/internal/check.errProposalsMatter", laid_example_com_lemmacast_lemmacast_internal_check_errProposalsMatter)] }
def LawS3035CMixedSaid : Prop := lawS3035CMixedRow.holds Ybad.pinned (OpenSpec.ofChange lawS3035CMixedSpec)

/-- ITS FALSE NEIGHBOUR: 'it returns false'. Refute it at one input. -/
def lawS3035CMixedWrong : ChangeSpec := { name := "lawS3035CMixed", vars := ["example.com/lemmacast/lemmacast/internal/check.errProposalsMatter"], fn := fun _ => fun
  | [d1, d2, d3, d4, d5, d6, g1] => { results := [.lit (.bool false)], args := [d1, d2, d3, d4, d5, d6], vars := [g1] }
  | _ => none }
def LawS3035CMixedWrongFalsely : Prop := lawS3035CMixedRow.holds Ybad.pinned (OpenSpec.ofChange lawS3035CMixedWrong)

end Rows
end Go.Proofs.YbulkbjvgDoor
