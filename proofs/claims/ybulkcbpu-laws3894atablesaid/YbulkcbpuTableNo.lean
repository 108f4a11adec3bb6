/-
  Seat b3894a, LawS3894ATable: the law's walks, one for each value that the wanted backend may have.
-/
import Derived.Test.YbulkcbpuTable
namespace Go.Proofs.Ybulkcbpu.Walks
open Go.RowKit Go.Deep

set_option maxHeartbeats 1000000 in
set_option maxRecDepth 100000 in
theorem table_no0 (a0 a1 a2 a3 a4 a5 : Int) (w : World) (l0 : 0 ≤ a0) (h0 : a0 ≤ 255) (l1 : 0 ≤ a1) (h1 : a1 ≤ 255) (l2 : 0 ≤ a2) (h2 : a2 ≤ 255) (l3 : 0 ≤ a3) (h3 : a3 ≤ 255) (l4 : 0 ≤ a4) (h4 : a4 ≤ 255)
    (hbs : (a2 % 4 == 0) = false) (hv : a0 % 4 = 0) :
    Calls Yba.prog 3 #[.int .u8 a0, .int .u8 a1, .int .u8 a2, .int .u8 a3, .int .u8 a4, .int .i64 a5] w fun e w' => e = .returned (.bool true) ∧ Grown w w' := by
  have hbn : a2 % 4 ≠ 0 := by simpa using hbs
  have hp : pk w.heap.size 0 = some ⟨w.heap.size, 0, none⟩ := rfl
  have q1 := run_eql_22
  have q2 := run_neq_22
  go_enter Yba.func3, Yba.ntmps3
  go_wp2_with fail
  have hL := laid_start w
  refine (pick_any w.heap.size a3 _ (hL _ _ _) l3 h3).mono ?_
  rintro e w' ⟨rfl, rfl⟩
  go_wp2_with fail
  refine (pick_any w.heap.size a4 _ (hL _ _ _) l4 h4).mono ?_
  rintro e w' ⟨rfl, rfl⟩
  go_wp2_with fail
  refine (pick_any w.heap.size a0 _ (hL _ _ _) l0 h0).mono ?_
  rintro e w' ⟨rfl, rfl⟩
  go_wp2_with fail
  refine (pick_any w.heap.size a1 _ (hL _ _ _) l1 h1).mono ?_
  rintro e w' ⟨rfl, rfl⟩
  go_wp2_with fail
  refine (pick_any w.heap.size a2 _ ((hL _ _ _).alloc _) l2 h2).mono ?_
  rintro e w' ⟨rfl, rfl⟩
  go_wp2_with fail
  refine (surest_no (w.heap.size + 1 + 1 + 1 + 1) _ _ _ (by exact cell3 (by simp)) (by exact pk_ne w.heap.size (a2 % 4) 0 _ ((hL _ _ _).alloc _) (by omega) (by omega) (by omega) (by omega) hbn)).mono ?_
  rintro e w' ⟨rfl, rfl⟩
  go_wp2_with fail
  go_quiet ((go_at_call 6; exact Calls.quiet_of_same (pick_any w.heap.size _ _ (((hL _ _ _).alloc _).drewN _) (by assumption) (by assumption))))
  go_wp2
  go_ret
  exact ⟨rfl, by repeat (first | exact Grown.refl _ | apply Grown.drew | apply Grown.alloc)⟩

set_option maxHeartbeats 1000000 in
set_option maxRecDepth 100000 in
theorem table_no1 (a0 a1 a2 a3 a4 a5 : Int) (w : World) (l0 : 0 ≤ a0) (h0 : a0 ≤ 255) (l1 : 0 ≤ a1) (h1 : a1 ≤ 255) (l2 : 0 ≤ a2) (h2 : a2 ≤ 255) (l3 : 0 ≤ a3) (h3 : a3 ≤ 255) (l4 : 0 ≤ a4) (h4 : a4 ≤ 255)
    (hbs : (a2 % 4 == 1) = false) (hv : a0 % 4 = 1) :
    Calls Yba.prog 3 #[.int .u8 a0, .int .u8 a1, .int .u8 a2, .int .u8 a3, .int .u8 a4, .int .i64 a5] w fun e w' => e = .returned (.bool true) ∧ Grown w w' := by
  have hbn : a2 % 4 ≠ 1 := by simpa using hbs
  have hp : pk w.heap.size 1 = some ⟨w.heap.size + 1, 0, none⟩ := rfl
  have q1 := run_eql_22
  have q2 := run_neq_22
  go_enter Yba.func3, Yba.ntmps3
  go_wp2_with fail
  have hL := laid_start w
  refine (pick_any w.heap.size a3 _ (hL _ _ _) l3 h3).mono ?_
  rintro e w' ⟨rfl, rfl⟩
  go_wp2_with fail
  refine (pick_any w.heap.size a4 _ (hL _ _ _) l4 h4).mono ?_
  rintro e w' ⟨rfl, rfl⟩
  go_wp2_with fail
  refine (pick_any w.heap.size a0 _ (hL _ _ _) l0 h0).mono ?_
  rintro e w' ⟨rfl, rfl⟩
  go_wp2_with fail
  refine (pick_any w.heap.size a1 _ (hL _ _ _) l1 h1).mono ?_
  rintro e w' ⟨rfl, rfl⟩
  go_wp2_with fail
  refine (pick_any w.heap.size a2 _ ((hL _ _ _).alloc _) l2 h2).mono ?_
  rintro e w' ⟨rfl, rfl⟩
  go_wp2_with fail
  refine (surest_no (w.heap.size + 1 + 1 + 1 + 1) _ _ _ (by exact cell3 (by simp)) (by exact pk_ne w.heap.size (a2 % 4) 1 _ ((hL _ _ _).alloc _) (by omega) (by omega) (by omega) (by omega) hbn)).mono ?_
  rintro e w' ⟨rfl, rfl⟩
  go_wp2_with fail
  go_quiet ((go_at_call 6; exact Calls.quiet_of_same (pick_any w.heap.size _ _ (((hL _ _ _).alloc _).drewN _) (by assumption) (by assumption))))
  go_wp2
  go_ret
  exact ⟨rfl, by repeat (first | exact Grown.refl _ | apply Grown.drew | apply Grown.alloc)⟩

set_option maxHeartbeats 1000000 in
set_option maxRecDepth 100000 in
theorem table_no2 (a0 a1 a2 a3 a4 a5 : Int) (w : World) (l0 : 0 ≤ a0) (h0 : a0 ≤ 255) (l1 : 0 ≤ a1) (h1 : a1 ≤ 255) (l2 : 0 ≤ a2) (h2 : a2 ≤ 255) (l3 : 0 ≤ a3) (h3 : a3 ≤ 255) (l4 : 0 ≤ a4) (h4 : a4 ≤ 255)
    (hbs : (a2 % 4 == 2) = false) (hv : a0 % 4 = 2) :
    Calls Yba.prog 3 #[.int .u8 a0, .int .u8 a1, .int .u8 a2, .int .u8 a3, .int .u8 a4, .int .i64 a5] w fun e w' => e = .returned (.bool true) ∧ Grown w w' := by
  have hbn : a2 % 4 ≠ 2 := by simpa using hbs
  have hp : pk w.heap.size 2 = some ⟨w.heap.size + 1 + 1, 0, none⟩ := rfl
  have q1 := run_eql_22
  have q2 := run_neq_22
  go_enter Yba.func3, Yba.ntmps3
  go_wp2_with fail
  have hL := laid_start w
  refine (pick_any w.heap.size a3 _ (hL _ _ _) l3 h3).mono ?_
  rintro e w' ⟨rfl, rfl⟩
  go_wp2_with fail
  refine (pick_any w.heap.size a4 _ (hL _ _ _) l4 h4).mono ?_
  rintro e w' ⟨rfl, rfl⟩
  go_wp2_with fail
  refine (pick_any w.heap.size a0 _ (hL _ _ _) l0 h0).mono ?_
  rintro e w' ⟨rfl, rfl⟩
  go_wp2_with fail
  refine (pick_any w.heap.size a1 _ (hL _ _ _) l1 h1).mono ?_
  rintro e w' ⟨rfl, rfl⟩
  go_wp2_with fail
  refine (pick_any w.heap.size a2 _ ((hL _ _ _).alloc _) l2 h2).mono ?_
  rintro e w' ⟨rfl, rfl⟩
  go_wp2_with fail
  refine (surest_no (w.heap.size + 1 + 1 + 1 + 1) _ _ _ (by exact cell3 (by simp)) (by exact pk_ne w.heap.size (a2 % 4) 2 _ ((hL _ _ _).alloc _) (by omega) (by omega) (by omega) (by omega) hbn)).mono ?_
  rintro e w' ⟨rfl, rfl⟩
  go_wp2_with fail
  go_quiet ((go_at_call 6; exact Calls.quiet_of_same (pick_any w.heap.size _ _ (((hL _ _ _).alloc _).drewN _) (by assumption) (by assumption))))
  go_wp2
  go_ret
  exact ⟨rfl, by repeat (first | exact Grown.refl _ | apply Grown.drew | apply Grown.alloc)⟩

set_option maxHeartbeats 1000000 in
set_option maxRecDepth 100000 in
theorem table_no3 (a0 a1 a2 a3 a4 a5 : Int) (w : World) (l0 : 0 ≤ a0) (h0 : a0 ≤ 255) (l1 : 0 ≤ a1) (h1 : a1 ≤ 255) (l2 : 0 ≤ a2) (h2 : a2 ≤ 255) (l3 : 0 ≤ a3) (h3 : a3 ≤ 255) (l4 : 0 ≤ a4) (h4 : a4 ≤ 255)
    (hbs : (a2 % 4 == 3) = false) (hv : a0 % 4 = 3) :
    Calls Yba.prog 3 #[.int .u8 a0, .int .u8 a1, .int .u8 a2, .int .u8 a3, .int .u8 a4, .int .i64 a5] w fun e w' => e = .returned (.bool true) ∧ Grown w w' := by
  have hbn : a2 % 4 ≠ 3 := by simpa using hbs
  have hp : pk w.heap.size 3 = none := rfl
  have q1 := run_eql_22
  have q2 := run_neq_22
  go_enter Yba.func3, Yba.ntmps3
  go_wp2_with fail
  have hL := laid_start w
  refine (pick_any w.heap.size a3 _ (hL _ _ _) l3 h3).mono ?_
  rintro e w' ⟨rfl, rfl⟩
  go_wp2_with fail
  refine (pick_any w.heap.size a4 _ (hL _ _ _) l4 h4).mono ?_
  rintro e w' ⟨rfl, rfl⟩
  go_wp2_with fail
  refine (pick_any w.heap.size a0 _ (hL _ _ _) l0 h0).mono ?_
  rintro e w' ⟨rfl, rfl⟩
  go_wp2_with fail
  refine (pick_any w.heap.size a1 _ (hL _ _ _) l1 h1).mono ?_
  rintro e w' ⟨rfl, rfl⟩
  go_wp2_with fail
  refine (pick_any w.heap.size a2 _ ((hL _ _ _).alloc _) l2 h2).mono ?_
  rintro e w' ⟨rfl, rfl⟩
  go_wp2_with fail
  refine (surest_no (w.heap.size + 1 + 1 + 1 + 1) _ _ _ (by exact cell3 (by simp)) (by exact pk_ne w.heap.size (a2 % 4) 3 _ ((hL _ _ _).alloc _) (by omega) (by omega) (by omega) (by omega) hbn)).mono ?_
  rintro e w' ⟨rfl, rfl⟩
  go_wp2_with fail
  go_quiet ((go_at_call 6; exact Calls.quiet_of_same (pick_any w.heap.size _ _ (((hL _ _ _).alloc _).drewN _) (by assumption) (by assumption))))
  go_wp2
  go_ret
  exact ⟨rfl, by repeat (first | exact Grown.refl _ | apply Grown.drew | apply Grown.alloc)⟩

end Go.Proofs.Ybulkcbpu.Walks
