/-
  No cell of these rows narrows 'for every input' (looked for: loops, veiled, ifaces, maps, wideKeys, modest, calm, conditions, laid).
  DERIVED. THE GIVEN ROWS OF THIS SEAT. 2 by the template 'for every input the law returns true; each argument reads behind the call as it read before'; 0 by the template 'total and deterministic' (their statements: YbulkcbryTotals.lean).
  GIVEN WITH THE SEED: the statements are not yours to turn. If you find one false, say at which input.
  Laid BY PROGRAM, IN A SANDBOX (cutbox-rows.mjs): the forced cells as the released guide's own fill.sh prints them over the translation 72c6f58c1cecc942… (all of the seat's roots in one cut). By AI agents, Wed Nov 11 2026. No macro, syntax, notation, axiom, sorry.
-/
import Derived.Test.YbulkcbryChecked
import GoSem.Claim
import GoSem.ClaimJoined
import GoSem.ClaimMapViews
import Derived.JoinedTies
import Derived.KernelRfl
namespace Go.Proofs.Ybulkcbry
/- THE CELL 'sum', in the pinned program and in every row, IS THE sha256 OF THE DUMP (.gsa) THAT YbulkcbryProg.lean LOADS. Nothing in Lean hashes anything: it is a label: what it is worth is what the hold of that sum in a sandbox is worth. -/
noncomputable def Yba.pinned : Pinned := { name := "ybulkcbry", sum := "72c6f58c1cecc94272245e55908a0743c641950ee37d8cd00c87cd75ae57cbaa", checked := Yba.checked }
namespace Rows
def none {H : Type} : Left H := { results := [], args := [] }

/-- 'latchwork.LawS3898CExact': WHATEVER THE INPUT: true; the input reads as it did. -/
def lawS3898CExactSpec : ChangeSpec := { name := "lawS3898CExact", fn := fun _ => fun
  | [d1, d2] => { results := [.lit (.bool true)], args := [d1, d2] }
  | _ => none }
def lawS3898CExactRow : OpenClaim := { program := "ybulkcbry", sum := "72c6f58c1cecc94272245e55908a0743c641950ee37d8cd00c87cd75ae57cbaa", func := "example.com/latchwork/latchwork.LawS3898CExact", spec := "lawS3898CExact", apart := false }
def LawS3898CExactSaid : Prop := lawS3898CExactRow.holds Yba.pinned (OpenSpec.ofChange lawS3898CExactSpec)

/-- ITS FALSE NEIGHBOUR: 'it returns false'. Refute it at one input. -/
def lawS3898CExactWrong : ChangeSpec := { name := "lawS3898CExact", fn := fun _ => fun
  | [d1, d2] => { results := [.lit (.bool false)], args := [d1, d2] }
  | _ => none }
def LawS3898CExactWrongFalsely : Prop := lawS3898CExactRow.holds Yba.pinned (OpenSpec.ofChange lawS3898CExactWrong)

/-- 'latchwork.LawS3898COpenThenClosed': WHATEVER THE INPUT: true; the input reads as it did. -/
def lawS3898COpenThenClosedSpec : ChangeSpec := { name := "lawS3898COpenThenClosed", fn := fun _ => fun
  | [d1, d2] => { results := [.lit (.bool true)], args := [d1, d2] }
  | _ => none }
def lawS3898COpenThenClosedRow : OpenClaim := { program := "ybulkcbry", sum := "72c6f58c1cecc94272245e55908a0743c641950ee37d8cd00c87cd75ae57cbaa", func := "example.com/latchwork/latchwork.LawS3898COpenThenClosed", spec := "lawS3898COpenThenClosed", apart := false }
def LawS3898COpenThenClosedSaid : Prop := lawS3898COpenThenClosedRow.holds Yba.pinned (OpenSpec.ofChange lawS3898COpenThenClosedSpec)

/-- ITS FALSE NEIGHBOUR: 'it returns false'. Refute it at one input. -/
def lawS3898COpenThenClosedWrong : ChangeSpec := { name := "lawS3898COpenThenClosed", fn := fun _ => fun
  | [d1, d2] => { results := [.lit (.bool false)], args := [d1, d2] }
  | _ => none }
def LawS3898COpenThenClosedWrongFalsely : Prop := lawS3898COpenThenClosedRow.holds Yba.pinned (OpenSpec.ofChange lawS3898COpenThenClosedWrong)

end Rows
end Go.Proofs.Ybulkcbry
