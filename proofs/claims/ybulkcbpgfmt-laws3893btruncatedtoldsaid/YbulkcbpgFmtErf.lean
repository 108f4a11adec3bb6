/-
  Seat b3893aF: fmt.Errorf at the two formats of the wire's readers.
-/
import Derived.Test.YbulkcbpgFmtRows
import Derived.WalkKit
import Derived.WalkSpells
import Derived.Stop.CallBack
import Derived.Stop.IfaceNil
import GoSem.ClaimData
namespace Go.Proofs.YbulkcbpgFmt
open Go.RowKit Go.Extern.Stop Go.Stop Go.Extern
set_option linter.unusedVariables false

@[go_sem] theorem call49 (args : Array Value) (w : World) : (callFunc 49 args).run Ybaf.prog w = (FmtCalls.errorf #[9, 109] #[30] args).run Ybaf.prog w :=
  run_callFunc_next Ybaf.func49 (by kernel_rfl) (by kernel_rfl) (by kernel_rfl) args w
@[go_sem] theorem guardE (name : String) (w : World) : (FmtStop.guard name).run Ybaf.prog w = .ok () w := by kernel_rfl
theorem nextTurns : Extern.next FmtCalls.turnsRow = some (FmtCalls.begun #[] #[]) := by kernel_rfl
abbrev fmtA : ByteArray := ⟨#[37, 119, 58, 32, 37, 100, 45, 98, 121, 116, 101, 32, 118, 97, 108, 117, 101, 44, 32, 37, 100, 32, 98, 121, 116, 101, 115, 32, 108, 101, 102, 116]⟩
abbrev fmtB : ByteArray := ⟨#[37, 119, 58, 32, 108, 101, 110, 103, 116, 104, 32, 37, 100, 44, 32, 37, 100, 32, 98, 121, 116, 101, 115, 32, 108, 101, 102, 116]⟩
@[go_sem] theorem fmtA3 : FmtStop.printed? fmtA 3 = some [(0, 119, false), (1, 100, false), (2, 100, false)] := by kernel_rfl
@[go_sem] theorem fmtA3r (w : World) : (FmtDoors.printed fmtA 3).run Ybaf.prog w = .ok [(0, 119, false), (1, 100, false), (2, 100, false)] w := by kernel_rfl
@[go_sem] theorem fmtB3 : FmtStop.printed? fmtB 3 = some [(0, 119, false), (1, 100, false), (2, 100, false)] := by kernel_rfl
@[go_sem] theorem fmtB3r (w : World) : (FmtDoors.printed fmtB 3).run Ybaf.prog w = .ok [(0, 119, false), (1, 100, false), (2, 100, false)] w := by kernel_rfl
@[go_sem] theorem act112 (name : String) (x : Value) (w : World) : (FmtCalls.act name true 119 false (.iface 112 x)).run Ybaf.prog w = .ok (.closed true) w := by kernel_rfl
@[go_sem] theorem act3 (name : String) (x : Value) (w : World) : (FmtCalls.act name true 100 false (.iface 3 x)).run Ybaf.prog w = .ok (.closed true) w := by kernel_rfl
@[go_sem] theorem act34 (name : String) (x : Value) (w : World) : (FmtCalls.act name true 100 false (.iface 34 x)).run Ybaf.prog w = .ok (.closed true) w := by kernel_rfl
@[go_sem] theorem ptr111 (w : World) : (FmtStop.ptrTo "fmt.wrapError").run Ybaf.prog w = .ok 111 w := by kernel_rfl
@[go_sem] theorem elem111 (w : World) : (elemOf 111).run Ybaf.prog w = .ok 141 w := by kernel_rfl
@[go_sem] theorem isError112 (w : World) : (FmtDoors.textMethod 112 "Error").run Ybaf.prog w = .ok true w := by kernel_rfl
@[go_sem] theorem isError111 (w : World) : (FmtDoors.textMethod 111 "Error").run Ybaf.prog w = .ok true w := by kernel_rfl
def plain112 : List UInt8 := 14 :: FmtStop.pack "*errors.errorString".toUTF8.data.toList
theorem opPlain112 (name : String) (a : Addr) (s : ByteArray) (w : World) (hc : w.cell? a = some (.string s)) :
    (FmtStop.operand name true 119 false (.iface 112 (.pointer (some a)))).run Ybaf.prog w = .ok (plain112, s.data.toList) w := by
  have h1 : (typeStr 112).run Ybaf.prog w = .ok "*errors.errorString" w := by kernel_rfl
  have d2 : Ybaf.t112.desc = .pointer 114 := rfl
  have d3 : ∃ u, Ybaf.t114.desc = .named "errors.errorString" u := ⟨_, rfl⟩
  obtain ⟨u, d3⟩ := d3
  simp [FmtStop.operand, h1, d2, d3, run_load, hc, plain112]

def shape3 : List UInt8 := [5, 3, 0, 0, 0, 0, 0, 0, 0, 105, 110, 116]
def shape34 : List UInt8 := [9, 6, 0, 0, 0, 0, 0, 0, 0, 117, 105, 110, 116, 54, 52]
@[go_sem] theorem op3 (name : String) (x : Int) (w : World) : (FmtStop.operand name true 100 false (.iface 3 (.int .i64 x))).run Ybaf.prog w = .ok (shape3, Go.Extern.Stop.digits 8 (x % 2 ^ 64).toNat) w := by kernel_rfl
@[go_sem] theorem op34 (name : String) (x : Int) (w : World) : (FmtStop.operand name true 100 false (.iface 34 (.int .u64 x))).run Ybaf.prog w = .ok (shape34, Go.Extern.Stop.digits 8 (x % 2 ^ 64).toNat) w := by kernel_rfl

set_option maxHeartbeats 800000 in
/-- fmt.Errorf at the two formats: a *fmt.wrapError that holds the first operand. -/
theorem errorf_A (F : Interp) (blk : Nat) (a : Addr) (s : ByteArray) (x y : Int) (w : World) (hF : F.answers w.tape)
    (hc0 : w.cell? ⟨blk, 0, none⟩ = some (.iface 112 (.pointer (some a)))) (hc1 : w.cell? ⟨blk, 1, none⟩ = some (.iface 3 (.int .i64 x))) (hc2 : w.cell? ⟨blk, 2, none⟩ = some (.iface 3 (.int .i64 y))) (ha : w.cell? a = some (.string s)) :
    Calls Ybaf.prog 44 #[.string fmtA, .slice (some ⟨blk, 0, none⟩) 3 3] w fun e w' => e = .returned (.iface 111 (.pointer (some ⟨w.heap.size, 0, none⟩))) ∧ ∃ t, w' = (w.alloc (.cells #[.string t, .iface 112 (.pointer (some a))] 141)).drew := by
  have hF' := answers_open hF
  have hop := opPlain112 "fmt.errorf" a s w ha
  go_enter Ybaf.func44, Ybaf.ntmps44
  go_wp2
  apply rows_value nextTurns
  case hr =>
    go_simp
    exact ⟨rfl, rfl⟩
  case h =>
    go_wp2
    go_ret
    exact ⟨rfl, _, rfl⟩

set_option maxHeartbeats 800000 in
theorem errorf_B (F : Interp) (blk : Nat) (a : Addr) (s : ByteArray) (x y : Int) (w : World) (hF : F.answers w.tape)
    (hc0 : w.cell? ⟨blk, 0, none⟩ = some (.iface 112 (.pointer (some a)))) (hc1 : w.cell? ⟨blk, 1, none⟩ = some (.iface 34 (.int .u64 x))) (hc2 : w.cell? ⟨blk, 2, none⟩ = some (.iface 3 (.int .i64 y))) (ha : w.cell? a = some (.string s)) :
    Calls Ybaf.prog 44 #[.string fmtB, .slice (some ⟨blk, 0, none⟩) 3 3] w fun e w' => e = .returned (.iface 111 (.pointer (some ⟨w.heap.size, 0, none⟩))) ∧ ∃ t, w' = (w.alloc (.cells #[.string t, .iface 112 (.pointer (some a))] 141)).drew := by
  have hF' := answers_open hF
  have hop := opPlain112 "fmt.errorf" a s w ha
  go_enter Ybaf.func44, Ybaf.ntmps44
  go_wp2
  apply rows_value nextTurns
  case hr =>
    go_simp
    exact ⟨rfl, rfl⟩
  case h =>
    go_wp2
    go_ret
    exact ⟨rfl, _, rfl⟩

end Go.Proofs.YbulkcbpgFmt
