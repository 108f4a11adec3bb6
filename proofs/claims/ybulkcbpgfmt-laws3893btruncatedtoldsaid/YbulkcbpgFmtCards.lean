/-
  DERIVED. GIVEN WITH THE SEED: THE CARDS: each row of YbulkcbpgFmtRows.lean that lists a variable, with what it lists TIED to the program's text (the seventh form; the later family's looks); each row that meets fmt, with fmt's text TOLD by the authors' own Lean function (tested against real Go, not proved from fmt's source: count such statements apart). THE CARD IS WHAT COUNTS. Prove the row's statement (the work); the ties are given (YbulkcbpgFmtTie.lean); close each card by the builder's one call (the guide's Derived/Test/ToyasCard.lean, 'card_holds'). Laid BY PROGRAM, IN A SANDBOX (cutbox-door.mjs). By AI agents, Wed Nov 11 2026. No macro, syntax, notation, axiom, sorry.
-/
import Derived.Test.YbulkcbpgFmtRows
import GoSem.ClaimSeven
namespace Go.Proofs.YbulkcbpgFmt
namespace Rows

/-- THE TOLD AND TIED CARD OF 'kinds.LawS3893BDecode'. -/
def lawS3893BDecodeCard : Claim7 := { stood := { row := lawS3893BDecodeRow, standIns := [], harness := (true, "8bf7bc5f08f0e5ff5e0c521579db943ea1817840a38bda5da55b04282df998d4"), looks := true }, told := true, laidByText := true, laidKinds := [.sentinel, .sentinel, .sentinel, .sentinel, .sentinel, .sentinel], laidTests := true, laidLooks := .later, goes := false }
def LawS3893BDecodeToldSaid : Prop := Claim7.holds Ybaf.pinned (.plain (OpenSpec.ofChange lawS3893BDecodeSpec)) lawS3893BDecodeCard
/-- ITS FALSE NEIGHBOUR. Refute it at one input. -/
def LawS3893BDecodeToldWrongFalsely : Prop := Claim7.holds Ybaf.pinned (.plain (OpenSpec.ofChange lawS3893BDecodeWrong)) lawS3893BDecodeCard

/-- THE TOLD AND TIED CARD OF 'kinds.LawS3893BTruncated'. -/
def lawS3893BTruncatedCard : Claim7 := { stood := { row := lawS3893BTruncatedRow, standIns := [], harness := (true, "8bf7bc5f08f0e5ff5e0c521579db943ea1817840a38bda5da55b04282df998d4"), looks := true }, told := true, laidByText := true, laidKinds := [.sentinel, .sentinel, .sentinel, .sentinel, .sentinel, .sentinel], laidTests := true, laidLooks := .later, goes := false }
def LawS3893BTruncatedToldSaid : Prop := Claim7.holds Ybaf.pinned (.plain (OpenSpec.ofChange lawS3893BTruncatedSpec)) lawS3893BTruncatedCard
/-- ITS FALSE NEIGHBOUR. Refute it at one input. -/
def LawS3893BTruncatedToldWrongFalsely : Prop := Claim7.holds Ybaf.pinned (.plain (OpenSpec.ofChange lawS3893BTruncatedWrong)) lawS3893BTruncatedCard

/-- THE TOLD AND TIED CARD OF 'kinds.LawS3893BRefuse'. -/
def lawS3893BRefuseCard : Claim7 := { stood := { row := lawS3893BRefuseRow, standIns := [], harness := (true, "8bf7bc5f08f0e5ff5e0c521579db943ea1817840a38bda5da55b04282df998d4"), looks := true }, told := true, laidByText := true, laidKinds := [.sentinel, .sentinel, .sentinel, .sentinel, .sentinel, .sentinel], laidTests := true, laidLooks := .later, goes := false }
def LawS3893BRefuseToldSaid : Prop := Claim7.holds Ybaf.pinned (.plain (OpenSpec.ofChange lawS3893BRefuseSpec)) lawS3893BRefuseCard
/-- ITS FALSE NEIGHBOUR. Refute it at one input. -/
def LawS3893BRefuseToldWrongFalsely : Prop := Claim7.holds Ybaf.pinned (.plain (OpenSpec.ofChange lawS3893BRefuseWrong)) lawS3893BRefuseCard
end Rows
end Go.Proofs.YbulkcbpgFmt
