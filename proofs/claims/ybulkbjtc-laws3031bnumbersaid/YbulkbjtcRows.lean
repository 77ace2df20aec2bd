/-
  No cell of these rows narrows 'for every input' (looked for: loops, veiled, ifaces, maps, wideKeys, modest, calm, conditions, laid).
  DERIVED. THE GIVEN ROWS OF THIS SEAT. 2 by the template 'for every input the law returns true; each argument reads behind the call as it read before'; 0 by the template 'total and deterministic' (their statements: YbulkbjtcTotals.lean).
  GIVEN WITH THE SEED: the statements are not yours to turn. If you find one false, say at which input.
  Laid BY PROGRAM, IN A SANDBOX (cutbox-rows.mjs): the forced cells as the released guide's own fill.sh prints them over the translation 51bd29c6d08e2ed6… (all of the seat's roots in one cut). By AI agents, Wed Nov 11 2026. No macro, syntax, notation, axiom, sorry.
-/
import Derived.Test.YbulkbjtcChecked
import GoSem.Claim
import GoSem.ClaimJoined
import GoSem.ClaimMapViews
import Derived.JoinedTies
import Derived.KernelRfl
namespace Go.Proofs.Ybulkbjtc
/- THE CELL 'sum', in the pinned program and in every row, IS THE sha256 OF THE DUMP (.gsa) THAT YbulkbjtcProg.lean LOADS. Nothing in Lean hashes anything: it is a label: what it is worth is what the hold of that sum in a sandbox is worth. -/
noncomputable def Yba.pinned : Pinned := { name := "ybulkbjtc", sum := "51bd29c6d08e2ed6135f155614161822772907a847f86b5df6f765c2082a1db2", checked := Yba.checked }
namespace Rows
def none {H : Type} : Left H := { results := [], args := [] }

/-- 'vclog.LawS3031BNumber': WHATEVER THE INPUT: true; the input reads as it did. -/
def lawS3031BNumberSpec : ChangeSpec := { name := "lawS3031BNumber", fn := fun _ => fun
  | [d1, d2, d3] => { results := [.lit (.bool true)], args := [d1, d2, d3] }
  | _ => none }
def lawS3031BNumberRow : OpenClaim := { program := "ybulkbjtc", sum := "51bd29c6d08e2ed6135f155614161822772907a847f86b5df6f765c2082a1db2", func := "example.com/beforehand/beforehand/internal/vclog.LawS3031BNumber", spec := "lawS3031BNumber", plainKeys := false, apart := false }
def LawS3031BNumberSaid : Prop := lawS3031BNumberRow.holds Yba.pinned (OpenSpec.ofChange lawS3031BNumberSpec)

/-- ITS FALSE NEIGHBOUR: 'it returns false'. Refute it at one input. -/
def lawS3031BNumberWrong : ChangeSpec := { name := "lawS3031BNumber", fn := fun _ => fun
  | [d1, d2, d3] => { results := [.lit (.bool false)], args := [d1, d2, d3] }
  | _ => none }
def LawS3031BNumberWrongFalsely : Prop := lawS3031BNumberRow.holds Yba.pinned (OpenSpec.ofChange lawS3031BNumberWrong)

/-- 'vclog.LawS3031BNone': WHATEVER THE INPUT: true; the input reads as it did. -/
def lawS3031BNoneSpec : ChangeSpec := { name := "lawS3031BNone", fn := fun _ => fun
  | [d] => { results := [.lit (.bool true)], args := [d] }
  | _ => none }
def lawS3031BNoneRow : OpenClaim := { program := "ybulkbjtc", sum := "51bd29c6d08e2ed6135f155614161822772907a847f86b5df6f765c2082a1db2", func := "example.com/beforehand/beforehand/internal/vclog.LawS3031BNone", spec := "lawS3031BNone", plainKeys := false, apart := false }
def LawS3031BNoneSaid : Prop := lawS3031BNoneRow.holds Yba.pinned (OpenSpec.ofChange lawS3031BNoneSpec)

/-- ITS FALSE NEIGHBOUR: 'it returns false'. Refute it at one input. -/
def lawS3031BNoneWrong : ChangeSpec := { name := "lawS3031BNone", fn := fun _ => fun
  | [d] => { results := [.lit (.bool false)], args := [d] }
  | _ => none }
def LawS3031BNoneWrongFalsely : Prop := lawS3031BNoneRow.holds Yba.pinned (OpenSpec.ofChange lawS3031BNoneWrong)

end Rows
end Go.Proofs.Ybulkbjtc
