/-
  No cell of these rows narrows 'for every input' (looked for: loops, veiled, ifaces, maps, wideKeys, modest, calm, conditions, laid).
  DERIVED. THE GIVEN ROWS OF THIS SEAT. 1 by the template 'for every input the law returns true; each argument reads behind the call as it read before'; 0 by the template 'total and deterministic' (their statements: YbulkcbpgTotals.lean).
  GIVEN WITH THE SEED: the statements are not yours to turn. If you find one false, say at which input.
  Laid BY PROGRAM, IN A SANDBOX (cutbox-rows.mjs): the forced cells as the released guide's own fill.sh prints them over the translation b85605f310452559… (all of the seat's roots in one cut). By AI agents, Wed Nov 11 2026. No macro, syntax, notation, axiom, sorry.
-/
import Derived.Test.YbulkcbpgChecked
import GoSem.Claim
import GoSem.ClaimJoined
import GoSem.ClaimMapViews
import Derived.JoinedTies
import Derived.KernelRfl
namespace Go.Proofs.Ybulkcbpg
/- THE CELL 'sum', in the pinned program and in every row, IS THE sha256 OF THE DUMP (.gsa) THAT YbulkcbpgProg.lean LOADS. Nothing in Lean hashes anything: it is a label: what it is worth is what the hold of that sum in a sandbox is worth. -/
noncomputable def Yba.pinned : Pinned := { name := "ybulkcbpg", sum := "b85605f310452559f8223c9fbde40b05b57b873579d2c6556542fa466f5f8605", checked := Yba.checked }
namespace Rows
def none {H : Type} : Left H := { results := [], args := [] }

/-- 'apipb.LawS3893CGetOptions': WHATEVER THE INPUT: true; the input reads as it did. -/
def lawS3893CGetOptionsSpec : ChangeSpec := { name := "lawS3893CGetOptions", fn := fun _ => fun
  | [d1, d2, d3] => { results := [.lit (.bool true)], args := [d1, d2, d3] }
  | _ => none }
def lawS3893CGetOptionsRow : OpenClaim := { program := "ybulkcbpg", sum := "b85605f310452559f8223c9fbde40b05b57b873579d2c6556542fa466f5f8605", func := "example.com/wiregen/wiregen/types/apipb.LawS3893CGetOptions", spec := "lawS3893CGetOptions", apart := false }
def LawS3893CGetOptionsSaid : Prop := lawS3893CGetOptionsRow.holds Yba.pinned (OpenSpec.ofChange lawS3893CGetOptionsSpec)

/-- ITS FALSE NEIGHBOUR: 'it returns false'. Refute it at one input. -/
def lawS3893CGetOptionsWrong : ChangeSpec := { name := "lawS3893CGetOptions", fn := fun _ => fun
  | [d1, d2, d3] => { results := [.lit (.bool false)], args := [d1, d2, d3] }
  | _ => none }
def LawS3893CGetOptionsWrongFalsely : Prop := lawS3893CGetOptionsRow.holds Yba.pinned (OpenSpec.ofChange lawS3893CGetOptionsWrong)

end Rows
end Go.Proofs.Ybulkcbpg
