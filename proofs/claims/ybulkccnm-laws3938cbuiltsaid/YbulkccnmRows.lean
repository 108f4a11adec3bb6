/-
  No cell of these rows narrows 'for every input' (looked for: loops, veiled, ifaces, maps, wideKeys, modest, calm, conditions, laid).
  DERIVED. THE GIVEN ROWS OF THIS SEAT. 2 by the template 'for every input the law returns true; each argument reads behind the call as it read before'; 0 by the template 'total and deterministic' (their statements: YbulkccnmTotals.lean).
  GIVEN WITH THE SEED: the statements are not yours to turn. If you find one false, say at which input.
  Laid BY PROGRAM, IN A SANDBOX (cutbox-rows.mjs): the forced cells as the released guide's own fill.sh prints them over the translation 4f182f0615ec289f… (all of the seat's roots in one cut). By AI agents, Wed Nov 11 2026. No macro, syntax, notation, axiom, sorry.
-/
import Derived.Test.YbulkccnmChecked
import GoSem.Claim
import GoSem.ClaimJoined
import GoSem.ClaimMapViews
import Derived.JoinedTies
import Derived.KernelRfl
namespace Go.Proofs.Ybulkccnm
/- THE CELL 'sum', in the pinned program and in every row, IS THE sha256 OF THE DUMP (.gsa) THAT YbulkccnmProg.lean LOADS. Nothing in Lean hashes anything: it is a label: what it is worth is what the hold of that sum in a sandbox is worth. -/
noncomputable def Yba.pinned : Pinned := { name := "ybulkccnm", sum := "4f182f0615ec289fc2097554b9110ef2d0aebe94965824ad4d25b942f43add29", checked := Yba.checked }
namespace Rows
def none {H : Type} : Left H := { results := [], args := [] }

/-- 'clear-policy.LawS3938CModel': WHATEVER THE INPUT: true; the input reads as it did. -/
def lawS3938CModelSpec : ChangeSpec := { name := "lawS3938CModel", fn := fun _ => fun
  | [d1, d2] => { results := [.lit (.bool true)], args := [d1, d2] }
  | _ => none }
def lawS3938CModelRow : OpenClaim := { program := "ybulkccnm", sum := "4f182f0615ec289fc2097554b9110ef2d0aebe94965824ad4d25b942f43add29", func := "example.com/clear-policy/clear-policy.LawS3938CModel", spec := "lawS3938CModel", apart := false }
def LawS3938CModelSaid : Prop := lawS3938CModelRow.holds Yba.pinned (OpenSpec.ofChange lawS3938CModelSpec)

/-- ITS FALSE NEIGHBOUR: 'it returns false'. Refute it at one input. -/
def lawS3938CModelWrong : ChangeSpec := { name := "lawS3938CModel", fn := fun _ => fun
  | [d1, d2] => { results := [.lit (.bool false)], args := [d1, d2] }
  | _ => none }
def LawS3938CModelWrongFalsely : Prop := lawS3938CModelRow.holds Yba.pinned (OpenSpec.ofChange lawS3938CModelWrong)

/-- 'clear-policy.LawS3938CBuilt': WHATEVER THE INPUT: true; the input reads as it did. -/
def lawS3938CBuiltSpec : ChangeSpec := { name := "lawS3938CBuilt", fn := fun _ => fun
  | [d1, d2, d3, d4] => { results := [.lit (.bool true)], args := [d1, d2, d3, d4] }
  | _ => none }
def lawS3938CBuiltRow : OpenClaim := { program := "ybulkccnm", sum := "4f182f0615ec289fc2097554b9110ef2d0aebe94965824ad4d25b942f43add29", func := "example.com/clear-policy/clear-policy.LawS3938CBuilt", spec := "lawS3938CBuilt", apart := false }
def LawS3938CBuiltSaid : Prop := lawS3938CBuiltRow.holds Yba.pinned (OpenSpec.ofChange lawS3938CBuiltSpec)

/-- ITS FALSE NEIGHBOUR: 'it returns false'. Refute it at one input. -/
def lawS3938CBuiltWrong : ChangeSpec := { name := "lawS3938CBuilt", fn := fun _ => fun
  | [d1, d2, d3, d4] => { results := [.lit (.bool false)], args := [d1, d2, d3, d4] }
  | _ => none }
def LawS3938CBuiltWrongFalsely : Prop := lawS3938CBuiltRow.holds Yba.pinned (OpenSpec.ofChange lawS3938CBuiltWrong)

end Rows
end Go.Proofs.Ybulkccnm
