/-
  Seat b3893aF: errors.Is at a *fmt.wrapError that wraps the target itself.
-/
import Derived.Test.YbulkcbpgFmtRows
import Derived.WalkKit
import Derived.LaidEql
import Derived.Stop.Asserts
import Derived.RowKitTokens
import Derived.LoopN
namespace Go.Proofs.YbulkcbpgFmt
open Go.RowKit Go.Extern.Stop Go.Stop Go.Extern
set_option linter.unusedVariables false

theorem isTypeOf (v : Value) (w : World) : (Extern.ReflectliteType.typeOf #[.iface 112 v]).run Ybaf.prog w = .ok (.iface 99 (.agg #[.pointer (some ⟨8, 112, none⟩)])) w := by kernel_rfl
theorem isComparable (w : World) : ((Extern.ReflectliteType.method fun t => do Extern.Rtype.noPackHeld "Comparable" t; Functor.map (fun a => Value.bool a.comparable) (typeInfo t)) #[.agg #[.pointer (some ⟨8, 112, none⟩)]]).run Ybaf.prog w = .ok (.bool true) w := by kernel_rfl
theorem isMethodComparable (v : Value) (w : World) : (Go.method 254 99 v "Comparable").run Ybaf.prog w = .ok (74, v) w := by kernel_rfl
theorem isComp : (Ybaf.prog.info? 112).map (·.comparable) = some true := by kernel_rfl
theorem isSize : (Ybaf.prog.info? 114).map (·.size) = some 1 := by kernel_rfl
theorem noIsE (v : Value) (xT : TypeId) (w : World) : (Instr.typeAssert (.iface 112 v) xT 101 true).run Ybaf.prog w = .ok (.tuple #[.nilIface, .bool false]) w := run_typeAssert_lacksB Ybaf.underlying101 (by kernel_rfl) (by kernel_rfl) v xT w
theorem noUnwrapE (v : Value) (xT : TypeId) (w : World) : (Instr.typeAssert (.iface 112 v) xT 104 true).run Ybaf.prog w = .ok (.tuple #[.nilIface, .bool false]) w := run_typeAssert_lacksB Ybaf.underlying104 (by kernel_rfl) (by kernel_rfl) v xT w
theorem noIsW (v : Value) (xT : TypeId) (w : World) : (Instr.typeAssert (.iface 111 v) xT 101 true).run Ybaf.prog w = .ok (.tuple #[.nilIface, .bool false]) w := run_typeAssert_lacksB Ybaf.underlying101 (by kernel_rfl) (by kernel_rfl) v xT w
theorem hasUnwrapW (v : Value) (xT : TypeId) (w : World) : (Instr.typeAssert (.iface 111 v) xT 104 true).run Ybaf.prog w = .ok (.tuple #[.iface 111 v, .bool true]) w := run_typeAssert_hasB Ybaf.underlying104 (by kernel_rfl) v xT w
theorem methodUnwrap (v : Value) (w : World) : (Go.method 254 111 v "Unwrap").run Ybaf.prog w = .ok (84, v) w := by kernel_rfl

set_option maxRecDepth 100000 in
set_option maxHeartbeats 1000000 in
/-- errors.Is(e, x), e a *fmt.wrapError that wraps x itself. -/
theorem is_wrap_same (pb po : Nat) (b : Addr) (w : World) (h1 : w.cell? ⟨pb, po + 1, none⟩ = some (.iface 112 (.pointer (some b)))) :
    Calls Ybaf.prog 12 #[.iface 111 (.pointer (some ⟨pb, po, none⟩)), .iface 112 (.pointer (some b))] w fun e w' => e = .returned (.bool true) ∧ w' = w := by
  obtain ⟨i, hi, hcmp⟩ := Option.map_eq_some_iff.1 isComp
  obtain ⟨j, hj, hjs⟩ := Option.map_eq_some_iff.1 isSize
  have h8 := @run_callFunc_extern Ybaf.prog 42 _ Extern.ReflectliteType.typeOf Ybaf.func42 (by kernel_rfl) (by kernel_rfl) (by kernel_rfl) (by kernel_rfl)
  have h32 := @run_callFunc_extern Ybaf.prog 74 _ (Extern.ReflectliteType.method fun t => do Extern.Rtype.noPackHeld "Comparable" t; pure (.bool (← typeInfo t).comparable)) Ybaf.func74 (by kernel_rfl) (by kernel_rfl) (by kernel_rfl) (by kernel_rfl)
  have tT := isTypeOf
  have cT := isComparable
  have mR := isMethodComparable
  have nE := noIsE
  have uE := noUnwrapE
  have nW := noIsW
  have uW := hasUnwrapW
  have mU := methodUnwrap
  have heq := run_eql_iface_ptr_same (P := Ybaf.prog) w b Ybaf.underlying30 Ybaf.underlying112 hi hcmp hj
  have hty := run_eql_iface_types (P := Ybaf.prog) 111 112 (.pointer (some ⟨pb, po, none⟩)) (.pointer (some b)) Ybaf.underlying30 (by decide) w
  go_enter Ybaf.func12, Ybaf.ntmps12
  go_wp2
  refine wp_loop_rounds 2 ?_
  rw [rounds_succ]
  go_wp2
  rw [rounds_succ]
  go_wp2
  go_ret
  exact ⟨rfl, rfl⟩
end Go.Proofs.YbulkcbpgFmt
