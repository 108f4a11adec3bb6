/-
  NARROWER THAN 'FOR EVERY INPUT', by the rows' own cells (each row's printed sentence says how): LawS3893BDecode: ifaces, laid · LawS3893BTruncated: ifaces, laid · LawS3893BRefuse: ifaces, laid.
  DERIVED. THE GIVEN ROWS OF THIS SEAT. 3 by the template 'for every input the law returns true; each argument reads behind the call as it read before'; 0 by the template 'total and deterministic' (their statements: YbulkcbpgFmtTotals.lean).
  GIVEN WITH THE SEED: the statements are not yours to turn. If you find one false, say at which input.
  Laid BY PROGRAM, IN A SANDBOX (cutbox-rows.mjs): the forced cells as the released guide's own fill.sh prints them over the translation cd4b8e13df57b35b… (all of the seat's roots in one cut). By AI agents, Wed Nov 11 2026. No macro, syntax, notation, axiom, sorry.
-/
import Derived.Test.YbulkcbpgFmtChecked
import GoSem.Claim
import GoSem.ClaimJoined
import GoSem.ClaimMapViews
import Derived.JoinedTies
import Derived.KernelRfl
namespace Go.Proofs.YbulkcbpgFmt
/- THE CELL 'sum', in the pinned program and in every row, IS THE sha256 OF THE DUMP (.gsa) THAT YbulkcbpgFmtProg.lean LOADS. Nothing in Lean hashes anything: it is a label: what it is worth is what the hold of that sum in a sandbox is worth. -/
noncomputable def Ybaf.pinned : Pinned := { name := "ybulkcbpgfmt", sum := "cd4b8e13df57b35b9545c352629894ad12babde581e38cf402f62aa0f5dcd7d7", checked := Ybaf.checked }
namespace Rows
def none {H : Type} : Left H := { results := [], args := [] }

/- WHAT THE LISTED PACKAGE-LEVEL VARIABLES READ AS WHEN THE CALL BEGINS. Each datum BY PROGRAM (the guide's laid-datum.mjs) off the statement by which the dump's own 'gosem.cut.vars' lays the variable. In a bare row this is a premise. The card (YbulkcbpgFmtCards.lean) ties it to the program's text. -/
def laid_example_com_wiregen_wiregen_ErrTruncated {H : Type} : DataW H := .iface "*errors.errorString" (.ptr (.agg [.lit (.string [119, 105, 114, 101, 103, 101, 110, 58, 32, 117, 110, 101, 120, 112, 101, 99, 116, 101, 100, 32, 101, 110, 100, 32, 111, 102, 32, 105, 110, 112, 117, 116])]))
def laid_example_com_wiregen_wiregen_ErrVarintTooLong {H : Type} : DataW H := .iface "*errors.errorString" (.ptr (.agg [.lit (.string [119, 105, 114, 101, 103, 101, 110, 58, 32, 118, 97, 114, 105, 110, 116, 32, 108, 111, 110, 103, 101, 114, 32, 116, 104, 97, 110, 32, 49, 48, 32, 98, 121, 116, 101, 115])]))
def laid_example_com_wiregen_wiregen_ErrInvalidTag {H : Type} : DataW H := .iface "*errors.errorString" (.ptr (.agg [.lit (.string [119, 105, 114, 101, 103, 101, 110, 58, 32, 105, 110, 118, 97, 108, 105, 100, 32, 102, 105, 101, 108, 100, 32, 116, 97, 103])]))
def laid_example_com_wiregen_wiregen_ErrUnmatchedGroup {H : Type} : DataW H := .iface "*errors.errorString" (.ptr (.agg [.lit (.string [119, 105, 114, 101, 103, 101, 110, 58, 32, 101, 110, 100, 45, 103, 114, 111, 117, 112, 32, 116, 97, 103, 32, 119, 105, 116, 104, 111, 117, 116, 32, 105, 116, 115, 32, 115, 116, 97, 114, 116, 45, 103, 114, 111, 117, 112])]))
def laid_example_com_wiregen_wiregen_ErrTooDeep {H : Type} : DataW H := .iface "*errors.errorString" (.ptr (.agg [.lit (.string [119, 105, 114, 101, 103, 101, 110, 58, 32, 109, 101, 115, 115, 97, 103, 101, 115, 32, 111, 114, 32, 103, 114, 111, 117, 112, 115, 32, 110, 101, 115, 116, 101, 100, 32, 116, 111, 111, 32, 100, 101, 101, 112, 108, 121])]))
def laid_example_com_wiregen_wiregen_ErrNilMessage {H : Type} : DataW H := .iface "*errors.errorString" (.ptr (.agg [.lit (.string [119, 105, 114, 101, 103, 101, 110, 58, 32, 110, 105, 108, 32, 109, 101, 115, 115, 97, 103, 101])]))

/-- 'kinds.LawS3893BDecode': WHATEVER THE INPUT: true; the input reads as it did. -/
def lawS3893BDecodeSpec : ChangeSpec := { name := "lawS3893BDecode", vars := ["example.com/wiregen/wiregen.ErrNilMessage", "example.com/wiregen/wiregen.ErrTooDeep", "example.com/wiregen/wiregen.ErrTruncated", "example.com/wiregen/wiregen.ErrInvalidTag", "example.com/wiregen/wiregen.ErrVarintTooLong", "example.com/wiregen/wiregen.ErrUnmatchedGroup"], fn := fun _ => fun
  | [d1, d2, d3, d4, g1, g2, g3, g4, g5, g6] => { results := [.lit (.bool true)], args := [d1, d2, d3, d4], vars := [g1, g2, g3, g4, g5, g6] }
  | _ => none }
def lawS3893BDecodeRow : OpenClaim := { program := "ybulkcbpgfmt", sum := "cd4b8e13df57b35b9545c352629894ad12babde581e38cf402f62aa0f5dcd7d7", func := "example.com/wiregen/wiregen/internal/golden/kinds.LawS3893BDecode", spec := "lawS3893BDecode", stops := ["fmt.errorf, its operands' methods called", "fmt.Sprintf"], inPlace := ["math.Float64frombits", "math.Float32frombits", "internal/reflectlite.TypeOf", "fmt.errorf", "math.Float64bits", "math.Float32bits"], unfollowed := true, recurses := true, named := ["example.com/wiregen/wiregen.ErrNilMessage", "example.com/wiregen/wiregen.ErrTooDeep", "example.com/wiregen/wiregen.ErrTruncated", "example.com/wiregen/wiregen.ErrInvalidTag", "example.com/wiregen/wiregen.ErrVarintTooLong", "encoding/binary.LittleEndian", "example.com/wiregen/wiregen.ErrUnmatchedGroup"], ifaces := true, apart := false, laid := [("example.com/wiregen/wiregen.ErrTruncated", laid_example_com_wiregen_wiregen_ErrTruncated), ("example.com/wiregen/wiregen.ErrVarintTooLong", laid_example_com_wiregen_wiregen_ErrVarintTooLong), ("example.com/wiregen/wiregen.ErrInvalidTag", laid_example_com_wiregen_wiregen_ErrInvalidTag), ("example.com/wiregen/wiregen.ErrUnmatchedGroup", laid_example_com_wiregen_wiregen_ErrUnmatchedGroup), ("example.com/wiregen/wiregen.ErrTooDeep", laid_example_com_wiregen_wiregen_ErrTooDeep), ("example.com/wiregen/wiregen.ErrNilMessage", laid_example_com_wiregen_wiregen_ErrNilMessage)] }
/-- NO THEOREM (fmt's text is open here; it may be false): for the released tool's asking of the row's closed facts alone. THE STATEMENT IS 'LawS3893BDecodeToldSaid' (YbulkcbpgFmtCards.lean). -/
def LawS3893BDecodeFormAsk : Prop := lawS3893BDecodeRow.holds Ybaf.pinned (OpenSpec.ofChange lawS3893BDecodeSpec)

/-- ITS FALSE NEIGHBOUR: 'it returns false'. Refute it at one input. -/
def lawS3893BDecodeWrong : ChangeSpec := { name := "lawS3893BDecode", vars := ["example.com/wiregen/wiregen.ErrNilMessage", "example.com/wiregen/wiregen.ErrTooDeep", "example.com/wiregen/wiregen.ErrTruncated", "example.com/wiregen/wiregen.ErrInvalidTag", "example.com/wiregen/wiregen.ErrVarintTooLong", "example.com/wiregen/wiregen.ErrUnmatchedGroup"], fn := fun _ => fun
  | [d1, d2, d3, d4, g1, g2, g3, g4, g5, g6] => { results := [.lit (.bool false)], args := [d1, d2, d3, d4], vars := [g1, g2, g3, g4, g5, g6] }
  | _ => none }
def LawS3893BDecodeWrongFormAsk : Prop := lawS3893BDecodeRow.holds Ybaf.pinned (OpenSpec.ofChange lawS3893BDecodeWrong)

/-- 'kinds.LawS3893BTruncated': WHATEVER THE INPUT: true; the input reads as it did. -/
def lawS3893BTruncatedSpec : ChangeSpec := { name := "lawS3893BTruncated", vars := ["example.com/wiregen/wiregen.ErrTruncated", "example.com/wiregen/wiregen.ErrNilMessage", "example.com/wiregen/wiregen.ErrTooDeep", "example.com/wiregen/wiregen.ErrInvalidTag", "example.com/wiregen/wiregen.ErrVarintTooLong", "example.com/wiregen/wiregen.ErrUnmatchedGroup"], fn := fun _ => fun
  | [d1, d2, d3, d4, d5, g1, g2, g3, g4, g5, g6] => { results := [.lit (.bool true)], args := [d1, d2, d3, d4, d5], vars := [g1, g2, g3, g4, g5, g6] }
  | _ => none }
def lawS3893BTruncatedRow : OpenClaim := { program := "ybulkcbpgfmt", sum := "cd4b8e13df57b35b9545c352629894ad12babde581e38cf402f62aa0f5dcd7d7", func := "example.com/wiregen/wiregen/internal/golden/kinds.LawS3893BTruncated", spec := "lawS3893BTruncated", stops := ["fmt.errorf, its operands' methods called", "fmt.Sprintf"], inPlace := ["math.Float64frombits", "math.Float32frombits", "internal/reflectlite.TypeOf", "fmt.errorf", "math.Float64bits", "math.Float32bits"], unfollowed := true, recurses := true, named := ["example.com/wiregen/wiregen.ErrTruncated", "example.com/wiregen/wiregen.ErrNilMessage", "example.com/wiregen/wiregen.ErrTooDeep", "example.com/wiregen/wiregen.ErrInvalidTag", "example.com/wiregen/wiregen.ErrVarintTooLong", "encoding/binary.LittleEndian", "example.com/wiregen/wiregen.ErrUnmatchedGroup"], ifaces := true, apart := false, laid := [("example.com/wiregen/wiregen.ErrTruncated", laid_example_com_wiregen_wiregen_ErrTruncated), ("example.com/wiregen/wiregen.ErrVarintTooLong", laid_example_com_wiregen_wiregen_ErrVarintTooLong), ("example.com/wiregen/wiregen.ErrInvalidTag", laid_example_com_wiregen_wiregen_ErrInvalidTag), ("example.com/wiregen/wiregen.ErrUnmatchedGroup", laid_example_com_wiregen_wiregen_ErrUnmatchedGroup), ("example.com/wiregen/wiregen.ErrTooDeep", laid_example_com_wiregen_wiregen_ErrTooDeep), ("example.com/wiregen/wiregen.ErrNilMessage", laid_example_com_wiregen_wiregen_ErrNilMessage)] }
/-- NO THEOREM (fmt's text is open here; it may be false): for the released tool's asking of the row's closed facts alone. THE STATEMENT IS 'LawS3893BTruncatedToldSaid' (YbulkcbpgFmtCards.lean). -/
def LawS3893BTruncatedFormAsk : Prop := lawS3893BTruncatedRow.holds Ybaf.pinned (OpenSpec.ofChange lawS3893BTruncatedSpec)

/-- ITS FALSE NEIGHBOUR: 'it returns false'. Refute it at one input. -/
def lawS3893BTruncatedWrong : ChangeSpec := { name := "lawS3893BTruncated", vars := ["example.com/wiregen/wiregen.ErrTruncated", "example.com/wiregen/wiregen.ErrNilMessage", "example.com/wiregen/wiregen.ErrTooDeep", "example.com/wiregen/wiregen.ErrInvalidTag", "example.com/wiregen/wiregen.ErrVarintTooLong", "example.com/wiregen/wiregen.ErrUnmatchedGroup"], fn := fun _ => fun
  | [d1, d2, d3, d4, d5, g1, g2, g3, g4, g5, g6] => { results := [.lit (.bool false)], args := [d1, d2, d3, d4, d5], vars := [g1, g2, g3, g4, g5, g6] }
  | _ => none }
def LawS3893BTruncatedWrongFormAsk : Prop := lawS3893BTruncatedRow.holds Ybaf.pinned (OpenSpec.ofChange lawS3893BTruncatedWrong)

/-- 'kinds.LawS3893BRefuse': WHATEVER THE INPUT: true; the input reads as it did. -/
def lawS3893BRefuseSpec : ChangeSpec := { name := "lawS3893BRefuse", vars := ["example.com/wiregen/wiregen.ErrTooDeep", "example.com/wiregen/wiregen.ErrNilMessage", "example.com/wiregen/wiregen.ErrTruncated", "example.com/wiregen/wiregen.ErrInvalidTag", "example.com/wiregen/wiregen.ErrVarintTooLong", "example.com/wiregen/wiregen.ErrUnmatchedGroup"], fn := fun _ => fun
  | [d1, d2, d3, g1, g2, g3, g4, g5, g6] => { results := [.lit (.bool true)], args := [d1, d2, d3], vars := [g1, g2, g3, g4, g5, g6] }
  | _ => none }
def lawS3893BRefuseRow : OpenClaim := { program := "ybulkcbpgfmt", sum := "cd4b8e13df57b35b9545c352629894ad12babde581e38cf402f62aa0f5dcd7d7", func := "example.com/wiregen/wiregen/internal/golden/kinds.LawS3893BRefuse", spec := "lawS3893BRefuse", stops := ["fmt.errorf, its operands' methods called", "fmt.Sprintf"], inPlace := ["math.Float64frombits", "math.Float32frombits", "internal/reflectlite.TypeOf", "fmt.errorf", "math.Float64bits", "math.Float32bits"], unfollowed := true, recurses := true, named := ["example.com/wiregen/wiregen.ErrTooDeep", "example.com/wiregen/wiregen.ErrNilMessage", "example.com/wiregen/wiregen.ErrTruncated", "example.com/wiregen/wiregen.ErrInvalidTag", "example.com/wiregen/wiregen.ErrVarintTooLong", "encoding/binary.LittleEndian", "example.com/wiregen/wiregen.ErrUnmatchedGroup"], ifaces := true, apart := false, laid := [("example.com/wiregen/wiregen.ErrTruncated", laid_example_com_wiregen_wiregen_ErrTruncated), ("example.com/wiregen/wiregen.ErrVarintTooLong", laid_example_com_wiregen_wiregen_ErrVarintTooLong), ("example.com/wiregen/wiregen.ErrInvalidTag", laid_example_com_wiregen_wiregen_ErrInvalidTag), ("example.com/wiregen/wiregen.ErrUnmatchedGroup", laid_example_com_wiregen_wiregen_ErrUnmatchedGroup), ("example.com/wiregen/wiregen.ErrTooDeep", laid_example_com_wiregen_wiregen_ErrTooDeep), ("example.com/wiregen/wiregen.ErrNilMessage", laid_example_com_wiregen_wiregen_ErrNilMessage)] }
/-- NO THEOREM (fmt's text is open here; it may be false): for the released tool's asking of the row's closed facts alone. THE STATEMENT IS 'LawS3893BRefuseToldSaid' (YbulkcbpgFmtCards.lean). -/
def LawS3893BRefuseFormAsk : Prop := lawS3893BRefuseRow.holds Ybaf.pinned (OpenSpec.ofChange lawS3893BRefuseSpec)

/-- ITS FALSE NEIGHBOUR: 'it returns false'. Refute it at one input. -/
def lawS3893BRefuseWrong : ChangeSpec := { name := "lawS3893BRefuse", vars := ["example.com/wiregen/wiregen.ErrTooDeep", "example.com/wiregen/wiregen.ErrNilMessage", "example.com/wiregen/wiregen.ErrTruncated", "example.com/wiregen/wiregen.ErrInvalidTag", "example.com/wiregen/wiregen.ErrVarintTooLong", "example.com/wiregen/wiregen.ErrUnmatchedGroup"], fn := fun _ => fun
  | [d1, d2, d3, g1, g2, g3, g4, g5, g6] => { results := [.lit (.bool false)], args := [d1, d2, d3], vars := [g1, g2, g3, g4, g5, g6] }
  | _ => none }
def LawS3893BRefuseWrongFormAsk : Prop := lawS3893BRefuseRow.holds Ybaf.pinned (OpenSpec.ofChange lawS3893BRefuseWrong)

end Rows
end Go.Proofs.YbulkcbpgFmt
