/-
  DERIVED. GIVEN WITH THE SEED: THE PROGRAM's TIES (one call each: nine closed facts by the kernel) AND EACH ROW's TIE, after the 31st guide's Derived/Test/Toyas{Tie, Card}.lean. No idea stands in it: it is a product of the set-up. Laid BY PROGRAM, IN A SANDBOX (cutbox-door.mjs). By AI agents, Wed Nov 11 2026. No macro, syntax, notation, axiom, sorry.
-/
import Derived.Test.YbulkcbpgFmtRows
import Derived.LaidByTextLater
import Derived.SevenTiedAt
import Derived.LaidSub
import Derived.LaidOnce
namespace Go.Proofs.YbulkcbpgFmt
open Go
set_option maxRecDepth 100000
theorem seatTie1 : Ybaf.prog.laidByTextLater [("example.com/wiregen/wiregen.ErrTruncated", Rows.laid_example_com_wiregen_wiregen_ErrTruncated), ("example.com/wiregen/wiregen.ErrVarintTooLong", Rows.laid_example_com_wiregen_wiregen_ErrVarintTooLong), ("example.com/wiregen/wiregen.ErrInvalidTag", Rows.laid_example_com_wiregen_wiregen_ErrInvalidTag), ("example.com/wiregen/wiregen.ErrUnmatchedGroup", Rows.laid_example_com_wiregen_wiregen_ErrUnmatchedGroup), ("example.com/wiregen/wiregen.ErrTooDeep", Rows.laid_example_com_wiregen_wiregen_ErrTooDeep), ("example.com/wiregen/wiregen.ErrNilMessage", Rows.laid_example_com_wiregen_wiregen_ErrNilMessage)] [.sentinel, .sentinel, .sentinel, .sentinel, .sentinel, .sentinel] true :=
  Program.laidByTextLater_by_one 123 8 2 (by kernel_rfl) (by kernel_rfl) (by kernel_rfl) (by kernel_rfl) (by kernel_rfl) (by kernel_rfl) (fun _ _ => by kernel_rfl)
theorem noOwnUnsafe : Ybaf.pinned.checked.prog.headLifts.contains "ownunsafe" = false := by kernel_rfl
theorem tie : Ybaf.prog.laidByTextLater [("example.com/wiregen/wiregen.ErrTruncated", Rows.laid_example_com_wiregen_wiregen_ErrTruncated), ("example.com/wiregen/wiregen.ErrVarintTooLong", Rows.laid_example_com_wiregen_wiregen_ErrVarintTooLong), ("example.com/wiregen/wiregen.ErrInvalidTag", Rows.laid_example_com_wiregen_wiregen_ErrInvalidTag), ("example.com/wiregen/wiregen.ErrUnmatchedGroup", Rows.laid_example_com_wiregen_wiregen_ErrUnmatchedGroup), ("example.com/wiregen/wiregen.ErrTooDeep", Rows.laid_example_com_wiregen_wiregen_ErrTooDeep), ("example.com/wiregen/wiregen.ErrNilMessage", Rows.laid_example_com_wiregen_wiregen_ErrNilMessage)] [.sentinel, .sentinel, .sentinel, .sentinel, .sentinel, .sentinel] true :=
  Program.laidByTextLater.sub seatTie1 ["example.com/wiregen/wiregen.ErrTruncated", "example.com/wiregen/wiregen.ErrVarintTooLong", "example.com/wiregen/wiregen.ErrInvalidTag", "example.com/wiregen/wiregen.ErrUnmatchedGroup", "example.com/wiregen/wiregen.ErrTooDeep", "example.com/wiregen/wiregen.ErrNilMessage"] (by kernel_rfl) (by kernel_rfl)
theorem lawS3893BDecode_row_tie : Rows.lawS3893BDecodeRow.laidByTextAt .later Ybaf.pinned [.sentinel, .sentinel, .sentinel, .sentinel, .sentinel, .sentinel] true :=
  OpenClaim.laidByTextAt_later rfl rfl tie noOwnUnsafe
theorem lawS3893BTruncated_row_tie : Rows.lawS3893BTruncatedRow.laidByTextAt .later Ybaf.pinned [.sentinel, .sentinel, .sentinel, .sentinel, .sentinel, .sentinel] true :=
  OpenClaim.laidByTextAt_later rfl rfl tie noOwnUnsafe
theorem lawS3893BRefuse_row_tie : Rows.lawS3893BRefuseRow.laidByTextAt .later Ybaf.pinned [.sentinel, .sentinel, .sentinel, .sentinel, .sentinel, .sentinel] true :=
  OpenClaim.laidByTextAt_later rfl rfl tie noOwnUnsafe
end Go.Proofs.YbulkcbpgFmt
