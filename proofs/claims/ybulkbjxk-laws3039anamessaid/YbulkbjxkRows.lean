/-
  No cell of these rows narrows 'for every input' (looked for: loops, veiled, ifaces, maps, wideKeys, modest, calm, conditions, laid).
  DERIVED. THE GIVEN ROWS OF THIS SEAT. 4 by the template 'for every input the law returns true; each argument reads behind the call as it read before'; 0 by the template 'total and deterministic' (their statements: YbulkbjxkTotals.lean).
  GIVEN WITH THE SEED: the statements are not yours to turn. If you find one false, say at which input.
  Laid BY PROGRAM, IN A SANDBOX (cutbox-rows.mjs): the forced cells as the released guide's own fill.sh prints them over the translation 6997f57d206c2a22… (all of the seat's roots in one cut). By AI agents, Wed Nov 11 2026. No macro, syntax, notation, axiom, sorry.
-/
import Derived.Test.YbulkbjxkChecked
import GoSem.Claim
import GoSem.ClaimJoined
import GoSem.ClaimMapViews
import Derived.JoinedTies
import Derived.KernelRfl
namespace Go.Proofs.Ybulkbjxk
/- THE CELL 'sum', in the pinned program and in every row, IS THE sha256 OF THE DUMP (.gsa) THAT YbulkbjxkProg.lean LOADS. Nothing in Lean hashes anything: it is a label: what it is worth is what the hold of that sum in a sandbox is worth. -/
noncomputable def Yba.pinned : Pinned := { name := "ybulkbjxk", sum := "6997f57d206c2a2265535c01081698f03d34d7b6236117d3a908ab768baacd68", checked := Yba.checked }
namespace Rows
def none {H : Type} : Left H := { results := [], args := [] }

/-- 'plan.LawS3039ALines': WHATEVER THE INPUT: true; the input reads as it did. -/
def lawS3039ALinesSpec : ChangeSpec := { name := "lawS3039ALines", fn := fun _ => fun
  | [d] => { results := [.lit (.bool true)], args := [d] }
  | _ => none }
def lawS3039ALinesRow : OpenClaim := { program := "ybulkbjxk", sum := "6997f57d206c2a2265535c01081698f03d34d7b6236117d3a908ab768baacd68", func := "example.com/vestline/vestline/plan.LawS3039ALines", spec := "lawS3039ALines", apart := false }
def LawS3039ALinesSaid : Prop := lawS3039ALinesRow.holds Yba.pinned (OpenSpec.ofChange lawS3039ALinesSpec)

/-- ITS FALSE NEIGHBOUR: 'it returns false'. Refute it at one input. -/
def lawS3039ALinesWrong : ChangeSpec := { name := "lawS3039ALines", fn := fun _ => fun
  | [d] => { results := [.lit (.bool false)], args := [d] }
  | _ => none }
def LawS3039ALinesWrongFalsely : Prop := lawS3039ALinesRow.holds Yba.pinned (OpenSpec.ofChange lawS3039ALinesWrong)

/-- 'plan.LawS3039ANames': WHATEVER THE INPUT: true; the input reads as it did. -/
def lawS3039ANamesSpec : ChangeSpec := { name := "lawS3039ANames", fn := fun _ => fun
  | [d] => { results := [.lit (.bool true)], args := [d] }
  | _ => none }
def lawS3039ANamesRow : OpenClaim := { program := "ybulkbjxk", sum := "6997f57d206c2a2265535c01081698f03d34d7b6236117d3a908ab768baacd68", func := "example.com/vestline/vestline/plan.LawS3039ANames", spec := "lawS3039ANames", apart := false }
def LawS3039ANamesSaid : Prop := lawS3039ANamesRow.holds Yba.pinned (OpenSpec.ofChange lawS3039ANamesSpec)

/-- ITS FALSE NEIGHBOUR: 'it returns false'. Refute it at one input. -/
def lawS3039ANamesWrong : ChangeSpec := { name := "lawS3039ANames", fn := fun _ => fun
  | [d] => { results := [.lit (.bool false)], args := [d] }
  | _ => none }
def LawS3039ANamesWrongFalsely : Prop := lawS3039ANamesRow.holds Yba.pinned (OpenSpec.ofChange lawS3039ANamesWrong)

/-- 'rules.LawS3039CTable': WHATEVER THE INPUT: true; the input reads as it did. -/
def lawS3039CTableSpec : ChangeSpec := { name := "lawS3039CTable", fn := fun _ => fun
  | [d] => { results := [.lit (.bool true)], args := [d] }
  | _ => none }
def lawS3039CTableRow : OpenClaim := { program := "ybulkbjxk", sum := "6997f57d206c2a2265535c01081698f03d34d7b6236117d3a908ab768baacd68", func := "example.com/vestline/vestline/rules.LawS3039CTable", spec := "lawS3039CTable", apart := false }
def LawS3039CTableSaid : Prop := lawS3039CTableRow.holds Yba.pinned (OpenSpec.ofChange lawS3039CTableSpec)

/-- ITS FALSE NEIGHBOUR: 'it returns false'. Refute it at one input. -/
def lawS3039CTableWrong : ChangeSpec := { name := "lawS3039CTable", fn := fun _ => fun
  | [d] => { results := [.lit (.bool false)], args := [d] }
  | _ => none }
def LawS3039CTableWrongFalsely : Prop := lawS3039CTableRow.holds Yba.pinned (OpenSpec.ofChange lawS3039CTableWrong)

/-- 'rules.LawS3039CNamed': WHATEVER THE INPUT: true; the input reads as it did. -/
def lawS3039CNamedSpec : ChangeSpec := { name := "lawS3039CNamed", fn := fun _ => fun
  | [d] => { results := [.lit (.bool true)], args := [d] }
  | _ => none }
def lawS3039CNamedRow : OpenClaim := { program := "ybulkbjxk", sum := "6997f57d206c2a2265535c01081698f03d34d7b6236117d3a908ab768baacd68", func := "example.com/vestline/vestline/rules.LawS3039CNamed", spec := "lawS3039CNamed", apart := false }
def LawS3039CNamedSaid : Prop := lawS3039CNamedRow.holds Yba.pinned (OpenSpec.ofChange lawS3039CNamedSpec)

/-- ITS FALSE NEIGHBOUR: 'it returns false'. Refute it at one input. -/
def lawS3039CNamedWrong : ChangeSpec := { name := "lawS3039CNamed", fn := fun _ => fun
  | [d] => { results := [.lit (.bool false)], args := [d] }
  | _ => none }
def LawS3039CNamedWrongFalsely : Prop := lawS3039CNamedRow.holds Yba.pinned (OpenSpec.ofChange lawS3039CNamedWrong)

end Rows
end Go.Proofs.Ybulkbjxk
