/-
  Seat b3893aF: a start in which the sentinels are as laid.
-/
import Derived.Test.YbulkcbpgFmtCards
import Derived.Test.YbulkcbpgFmtTie
import Derived.Deep.DeepWitnessRowRef
import Derived.Lib.LaidIn
import Derived.ProofKit
import Derived.Stop.JoinedTold
import Derived.OpenVars
namespace Go.Proofs.YbulkcbpgFmt
open Go.ChangeShapes Go.WideShapes Go.ChangeAt Go.RowKit
set_option linter.unusedVariables false

theorem own : ownKnob Ybaf.prog.godebug = none := by kernel_rfl
theorem laidOut : laidOutB Ybaf.prog = true := by kernel_rfl

def tTruncated : Array UInt8 := #[119, 105, 114, 101, 103, 101, 110, 58, 32, 117, 110, 101, 120, 112, 101, 99, 116, 101, 100, 32, 101, 110, 100, 32, 111, 102, 32, 105, 110, 112, 117, 116]
def tVarint : Array UInt8 := #[119, 105, 114, 101, 103, 101, 110, 58, 32, 118, 97, 114, 105, 110, 116, 32, 108, 111, 110, 103, 101, 114, 32, 116, 104, 97, 110, 32, 49, 48, 32, 98, 121, 116, 101, 115]
def tTag : Array UInt8 := #[119, 105, 114, 101, 103, 101, 110, 58, 32, 105, 110, 118, 97, 108, 105, 100, 32, 102, 105, 101, 108, 100, 32, 116, 97, 103]
def tGroup : Array UInt8 := #[119, 105, 114, 101, 103, 101, 110, 58, 32, 101, 110, 100, 45, 103, 114, 111, 117, 112, 32, 116, 97, 103, 32, 119, 105, 116, 104, 111, 117, 116, 32, 105, 116, 115, 32, 115, 116, 97, 114, 116, 45, 103, 114, 111, 117, 112]
def tDeep : Array UInt8 := #[119, 105, 114, 101, 103, 101, 110, 58, 32, 109, 101, 115, 115, 97, 103, 101, 115, 32, 111, 114, 32, 103, 114, 111, 117, 112, 115, 32, 110, 101, 115, 116, 101, 100, 32, 116, 111, 111, 32, 100, 101, 101, 112, 108, 121]
def tNil : Array UInt8 := #[119, 105, 114, 101, 103, 101, 110, 58, 32, 110, 105, 108, 32, 109, 101, 115, 115, 97, 103, 101]

/-- A world in which the six sentinels are as the program lays them. -/
noncomputable def laidWorld (os : Os) : World :=
  let N := (World.settled Ybaf.prog os).heap.size
  let w0 := World.holding Ybaf.prog os ⟨#[.cells #[.string ⟨tTruncated⟩] 114, .cells #[.string ⟨tVarint⟩] 114, .cells #[.string ⟨tTag⟩] 114, .cells #[.string ⟨tGroup⟩] 114, .cells #[.string ⟨tDeep⟩] 114, .cells #[.string ⟨tNil⟩] 114], #[], []⟩
  let put (h : Array Obj) (g : Nat) (cs : Array Value) : Array Obj := h.modify g fun
    | .cells _ t frozen => .cells cs t frozen
    | o => o
  let h0 := put (put (put w0.heap 0 #[.iface 112 (.pointer (some ⟨N, 0, none⟩))]) 6 #[.iface 112 (.pointer (some ⟨N + 1, 0, none⟩))]) 3 #[.iface 112 (.pointer (some ⟨N + 2, 0, none⟩))]
  let h1 := put (put (put h0 7 #[.iface 112 (.pointer (some ⟨N + 3, 0, none⟩))]) 1 #[.iface 112 (.pointer (some ⟨N + 4, 0, none⟩))]) 2 #[.iface 112 (.pointer (some ⟨N + 5, 0, none⟩))]
  { w0 with heap := h1 }

noncomputable abbrev N0 : Nat := (World.settled Ybaf.prog default).heap.size
set_option maxRecDepth 1000000 in
theorem laid_in (os : Os) (args : Array Value) : LaidIn Ybaf.prog ((laidWorld os).forCall (fun _ _ => 0) ⟨#[], args, []⟩).memory Rows.lawS3893BDecodeRow.laid [0, N0, 6, N0 + 1, 3, N0 + 2, 7, N0 + 3, 1, N0 + 4, 2, N0 + 5] :=
  LaidIn.of_run [0, N0, 6, N0 + 1, 3, N0 + 2, 7, N0 + 3, 1, N0 + 4, 2, N0 + 5] 10 (by kernel_rfl) (by kernel_rfl) (by kernel_rfl) (by kernel_rfl)

theorem laid_met (os : Os) (args : Array Value) : laidMet Ybaf.prog Rows.lawS3893BDecodeRow.laid ((laidWorld os).forCall (fun _ _ => 0) ⟨#[], args, []⟩).memory := (laid_in os args).met

noncomputable abbrev specD : OpenSpec := OpenSpec.ofChange Rows.lawS3893BDecodeSpec

set_option maxRecDepth 1000000 in
theorem witness_row (os : Os) {H : Type} (enc : TypeId × Value → H) :
    specD.preRow enc Ybaf.prog Ybaf.f3 Rows.lawS3893BDecodeRow.domain false Rows.lawS3893BDecodeRow.laid ((laidWorld os).forCall (fun _ _ => 0) ⟨#[], #[.slice none 0 0, .slice none 0 0, .slice none 0 0, .int .u8 0], []⟩).memory #[.slice none 0 0, .slice none 0 0, .slice none 0 0, .int .u8 0] := by
  have hw : (DataW.whole enc Ybaf.prog ((laidWorld os).forCall (fun _ _ => 0) ⟨#[], #[.slice none 0 0, .slice none 0 0, .slice none 0 0, .int .u8 0], []⟩).memory Ybaf.f3.params.toList specD.vars false #[Value.slice none 0 0, Value.slice none 0 0, Value.slice none 0 0, Value.int .u8 0].toList 10).map (fun x => (x.1, x.2.1)) =
      some ([.nil, .nil, .nil, .lit (.int .u8 0)], [.held (enc (112, .pointer (some ⟨N0 + 5, 0, none⟩))), .held (enc (112, .pointer (some ⟨N0 + 4, 0, none⟩))), .held (enc (112, .pointer (some ⟨N0 + 0, 0, none⟩))), .held (enc (112, .pointer (some ⟨N0 + 2, 0, none⟩))), .held (enc (112, .pointer (some ⟨N0 + 1, 0, none⟩))), .held (enc (112, .pointer (some ⟨N0 + 3, 0, none⟩)))]) := by kernel_rfl
  obtain ⟨⟨x1, x2, x3⟩, hx, hx1⟩ := Option.map_eq_some_iff.1 hw
  simp only [Prod.mk.injEq] at hx1
  obtain ⟨rfl, rfl⟩ := hx1
  exact OpenSpec.preRow_of_cond 10 hx (by kernel_rfl) (fun k hk => by cases hk) (by kernel_rfl) (laid_met os _)

end Go.Proofs.YbulkcbpgFmt
