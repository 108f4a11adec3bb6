/-
  No cell of these rows narrows 'for every input' (looked for: loops, veiled, ifaces, maps, wideKeys, modest, calm, conditions, laid).
  DERIVED. THE GIVEN ROWS OF THIS SEAT. 3 by the template 'for every input the law returns true; each argument reads behind the call as it read before'; 0 by the template 'total and deterministic' (their statements: YbulkcbpuTotals.lean).
  GIVEN WITH THE SEED: the statements are not yours to turn. If you find one false, say at which input.
  Laid BY PROGRAM, IN A SANDBOX (cutbox-rows.mjs): the forced cells as the released guide's own fill.sh prints them over the translation f5781817d3441109… (all of the seat's roots in one cut). By AI agents, Wed Nov 11 2026. No macro, syntax, notation, axiom, sorry.
-/
import Derived.Test.YbulkcbpuChecked
import GoSem.Claim
import GoSem.ClaimJoined
import GoSem.ClaimMapViews
import Derived.JoinedTies
import Derived.KernelRfl
namespace Go.Proofs.Ybulkcbpu
/- THE CELL 'sum', in the pinned program and in every row, IS THE sha256 OF THE DUMP (.gsa) THAT YbulkcbpuProg.lean LOADS. Nothing in Lean hashes anything: it is a label: what it is worth is what the hold of that sum in a sandbox is worth. -/
noncomputable def Yba.pinned : Pinned := { name := "ybulkcbpu", sum := "f5781817d34411097a35d11b2294feb83a1bd41415057a4f1ee24469b914b1d0", checked := Yba.checked }
namespace Rows
def none {H : Type} : Left H := { results := [], args := [] }

/-- 'hostwheel.LawS3894ATable': WHATEVER THE INPUT: true; the input reads as it did. -/
def lawS3894ATableSpec : ChangeSpec := { name := "lawS3894ATable", fn := fun _ => fun
  | [d1, d2, d3, d4, d5, d6] => { results := [.lit (.bool true)], args := [d1, d2, d3, d4, d5, d6] }
  | _ => none }
def lawS3894ATableRow : OpenClaim := { program := "ybulkcbpu", sum := "f5781817d34411097a35d11b2294feb83a1bd41415057a4f1ee24469b914b1d0", func := "example.com/hostwheel/hostwheel.LawS3894ATable", spec := "lawS3894ATable", apart := false }
def LawS3894ATableSaid : Prop := lawS3894ATableRow.holds Yba.pinned (OpenSpec.ofChange lawS3894ATableSpec)

/-- ITS FALSE NEIGHBOUR: 'it returns false'. Refute it at one input. -/
def lawS3894ATableWrong : ChangeSpec := { name := "lawS3894ATable", fn := fun _ => fun
  | [d1, d2, d3, d4, d5, d6] => { results := [.lit (.bool false)], args := [d1, d2, d3, d4, d5, d6] }
  | _ => none }
def LawS3894ATableWrongFalsely : Prop := lawS3894ATableRow.holds Yba.pinned (OpenSpec.ofChange lawS3894ATableWrong)

/-- 'hostwheel.LawS3894CExact': WHATEVER THE INPUT: true; the input reads as it did. -/
def lawS3894CExactSpec : ChangeSpec := { name := "lawS3894CExact", fn := fun _ => fun
  | [d1, d2, d3] => { results := [.lit (.bool true)], args := [d1, d2, d3] }
  | _ => none }
def lawS3894CExactRow : OpenClaim := { program := "ybulkcbpu", sum := "f5781817d34411097a35d11b2294feb83a1bd41415057a4f1ee24469b914b1d0", func := "example.com/hostwheel/hostwheel.LawS3894CExact", spec := "lawS3894CExact", inPlace := ["sync/atomic.StoreUint64", "sync/atomic.LoadUint64", "math.Float64frombits", "math.Float64bits", "sync/atomic.CompareAndSwapUint64"], apart := false }
def LawS3894CExactSaid : Prop := lawS3894CExactRow.holds Yba.pinned (OpenSpec.ofChange lawS3894CExactSpec)

/-- ITS FALSE NEIGHBOUR: 'it returns false'. Refute it at one input. -/
def lawS3894CExactWrong : ChangeSpec := { name := "lawS3894CExact", fn := fun _ => fun
  | [d1, d2, d3] => { results := [.lit (.bool false)], args := [d1, d2, d3] }
  | _ => none }
def LawS3894CExactWrongFalsely : Prop := lawS3894CExactRow.holds Yba.pinned (OpenSpec.ofChange lawS3894CExactWrong)

/-- 'hostwheel.LawS3894CShareBounded': WHATEVER THE INPUT: true; the input reads as it did. -/
def lawS3894CShareBoundedSpec : ChangeSpec := { name := "lawS3894CShareBounded", fn := fun _ => fun
  | [d1, d2, d3] => { results := [.lit (.bool true)], args := [d1, d2, d3] }
  | _ => none }
def lawS3894CShareBoundedRow : OpenClaim := { program := "ybulkcbpu", sum := "f5781817d34411097a35d11b2294feb83a1bd41415057a4f1ee24469b914b1d0", func := "example.com/hostwheel/hostwheel.LawS3894CShareBounded", spec := "lawS3894CShareBounded", inPlace := ["math.Float64bits", "sync/atomic.StoreUint64", "sync/atomic.LoadUint64", "math.Float64frombits", "sync/atomic.CompareAndSwapUint64"], apart := false }
def LawS3894CShareBoundedSaid : Prop := lawS3894CShareBoundedRow.holds Yba.pinned (OpenSpec.ofChange lawS3894CShareBoundedSpec)

/-- ITS FALSE NEIGHBOUR: 'it returns false'. Refute it at one input. -/
def lawS3894CShareBoundedWrong : ChangeSpec := { name := "lawS3894CShareBounded", fn := fun _ => fun
  | [d1, d2, d3] => { results := [.lit (.bool false)], args := [d1, d2, d3] }
  | _ => none }
def LawS3894CShareBoundedWrongFalsely : Prop := lawS3894CShareBoundedRow.holds Yba.pinned (OpenSpec.ofChange lawS3894CShareBoundedWrong)

end Rows
end Go.Proofs.Ybulkcbpu
