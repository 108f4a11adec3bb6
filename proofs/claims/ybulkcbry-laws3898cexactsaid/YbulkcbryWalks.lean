/-
  THE WALKS of seat b3898a: '(*Cursor).state' by two contracts (the openings agree; they do not), and the two laws, each way of its tests a walk of its own.
-/
import Derived.Test.YbulkcbryRows
import Derived.WalkKit
import Derived.RegionTactic
import Derived.LaidEqlPtr
namespace Go.Proofs.Ybulkcbry.Walks
open Go.RowKit

theorem run_neq_ptr_same {P : Program} {tp te : TypeId} {j : TypeInfo} (a : Addr) (hp : P.underlying tp = some (.pointer te)) (hte : P.info? te = some j) (w : World) :
    (binOp .neq tp (.pointer (some a)) (.pointer (some a))).run P w = .ok (.bool false) w := by
  have h : ∀ d : Nat, (Op.equalIn (d + 1) tp (.pointer (some a)) (.pointer (some a))).run P w = .ok true w := fun d => by
    simp [Op.equalIn, run_underlying hp, sizeOf, typeInfo, hte, run_sameAddr_same]
  simp only [binOp]
  simp [Op.equal, Op.maxDepth, h 9999]

theorem info44 : (Yba.prog.info? 44).isSome = true := by kernel_rfl

theorem eq23 (a : Addr) (w : World) : (binOp .eql 23 (.pointer (some a)) (.pointer (some a))).run Yba.prog w = .ok (.bool true) w := by
  obtain ⟨j, hj⟩ := Option.isSome_iff_exists.1 info44
  exact run_eql_ptr_same w a Yba.underlying23 hj

theorem ne23 (a : Addr) (w : World) : (binOp .neq 23 (.pointer (some a)) (.pointer (some a))).run Yba.prog w = .ok (.bool false) w := by
  obtain ⟨j, hj⟩ := Option.isSome_iff_exists.1 info44
  exact run_neq_ptr_same a Yba.underlying23 hj w

theorem state_eq (h c : Nat) (x : Int) (w : World) (h0 : w.cell? ⟨h, 0, none⟩ = some (.pointer (some ⟨c, 0, none⟩))) (h1 : w.cell? ⟨h, 1, none⟩ = some (.int .u64 x)) (h2 : w.cell? ⟨c, 0, none⟩ = some (.int .u64 x)) :
    Calls Yba.prog 5 #[.pointer (some ⟨h, 0, none⟩)] w fun e w' => e = .returned (.pointer (some ⟨c, 0, none⟩)) ∧ w' = w.drew := by
  go_enter Yba.func5, Yba.ntmps5
  go_wp2
  go_region
  all_goals (go_wp2; go_ret; exact ⟨rfl, rfl⟩)

theorem state_ne (h c : Nat) (x y : Int) (w : World) (h0 : w.cell? ⟨h, 0, none⟩ = some (.pointer (some ⟨c, 0, none⟩))) (h1 : w.cell? ⟨h, 1, none⟩ = some (.int .u64 x)) (h2 : w.cell? ⟨c, 0, none⟩ = some (.int .u64 y)) (hne : (y != x) = true) :
    Calls Yba.prog 5 #[.pointer (some ⟨h, 0, none⟩)] w fun e w' => e = .returned (.pointer none) ∧ w' = w.drew := by
  go_enter Yba.func5, Yba.ntmps5
  go_wp2
  go_region
  all_goals (go_wp2; go_ret; exact ⟨rfl, rfl⟩)

set_option maxHeartbeats 400000 in
set_option maxRecDepth 100000 in
theorem exact_eq (a : Int) (w : World) :
    Calls Yba.prog 3 #[.int .u64 a, .int .u64 a] w fun e w' => e = .returned (.bool true) ∧ Grown w w' := by
  have q1 := eq23
  have q2 := ne23
  go_enter Yba.func3, Yba.ntmps3
  go_wp2_with fail
  refine (state_eq (w.heap.size + 1) w.heap.size a _ (by go_simp) (by go_simp) (by go_simp)).mono ?_
  rintro e w' ⟨rfl, rfl⟩
  go_wp2
  go_ret
  exact ⟨rfl, by repeat (first | exact Grown.refl _ | apply Grown.drew | apply Grown.alloc)⟩

set_option maxHeartbeats 400000 in
set_option maxRecDepth 100000 in
theorem exact_ne (a b : Int) (w : World) (hne : (a == b) = false) :
    Calls Yba.prog 3 #[.int .u64 a, .int .u64 b] w fun e w' => e = .returned (.bool true) ∧ Grown w w' := by
  have hne2 : (a != b) = true := by simp at hne; simp [hne]
  have q1 := eq23
  have q2 := ne23
  go_enter Yba.func3, Yba.ntmps3
  go_wp2_with fail
  refine (state_ne (w.heap.size + 1) w.heap.size b a _ ?_ ?_ ?_ hne2).mono ?_
  · go_simp
  · go_simp
  · go_simp
  rintro e w' ⟨rfl, rfl⟩
  go_wp2
  go_ret
  exact ⟨rfl, by repeat (first | exact Grown.refl _ | apply Grown.drew | apply Grown.alloc)⟩

/-- 'n + step' is not n again, whatever the wrap, where the step is none of 0's kin. -/
theorem step_ne (n s : Int) (_h0 : 0 ≤ n) (_h1 : n < 18446744073709551616) (s0 : 0 < s) (s1 : s < 18446744073709551616) : ((IntKind.u64.wrap (n + s)) != n) = true := by
  rw [bne_iff_ne]
  simp only [IntKind.wrap_u64]
  omega

set_option maxHeartbeats 400000 in
set_option maxRecDepth 100000 in
theorem open_closed (n s : Int) (w : World) (hne : (s == 0) = false) (hw : ((IntKind.u64.wrap (n + s)) != n) = true) :
    Calls Yba.prog 4 #[.int .u64 n, .int .u64 s] w fun e w' => e = .returned (.bool true) ∧ Grown w w' := by
  have q1 := eq23
  have q2 := ne23
  go_enter Yba.func4, Yba.ntmps4
  go_wp2_with fail
  refine (state_eq (w.heap.size + 1) w.heap.size n _ ?_ ?_ ?_).mono ?_
  · go_simp
  · go_simp
  · go_simp
  rintro e w' ⟨rfl, rfl⟩
  go_wp2_with fail
  refine (state_ne (w.heap.size + 1) w.heap.size n (IntKind.u64.wrap (n + s)) _ ?_ ?_ ?_ hw).mono ?_
  · go_simp
  · go_simp
  · go_simp
  rintro e w' ⟨rfl, rfl⟩
  go_wp2
  go_ret
  exact ⟨rfl, by repeat (first | exact Grown.refl _ | apply Grown.drew | apply Grown.alloc)⟩

set_option maxHeartbeats 400000 in
set_option maxRecDepth 100000 in
theorem open_closed_none (n : Int) (w : World) (hw : ((IntKind.u64.wrap (n + 1)) != n) = true) :
    Calls Yba.prog 4 #[.int .u64 n, .int .u64 0] w fun e w' => e = .returned (.bool true) ∧ Grown w w' := by
  have q1 := eq23
  have q2 := ne23
  go_enter Yba.func4, Yba.ntmps4
  go_wp2_with fail
  refine (state_eq (w.heap.size + 1) w.heap.size n _ ?_ ?_ ?_).mono ?_
  · go_simp
  · go_simp
  · go_simp
  rintro e w' ⟨rfl, rfl⟩
  go_wp2_with fail
  refine (state_ne (w.heap.size + 1) w.heap.size n (IntKind.u64.wrap (n + 1)) _ ?_ ?_ ?_ hw).mono ?_
  · go_simp
  · go_simp
  · go_simp
  rintro e w' ⟨rfl, rfl⟩
  go_wp2
  go_ret
  exact ⟨rfl, by repeat (first | exact Grown.refl _ | apply Grown.drew | apply Grown.alloc)⟩

end Go.Proofs.Ybulkcbry.Walks
