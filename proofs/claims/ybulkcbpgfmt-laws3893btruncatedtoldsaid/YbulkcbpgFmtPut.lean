/-
  Seat b3893aF: zzs3893bput: one value more in one field.
-/
import Derived.Test.YbulkcbpgFmtLaw
import Derived.Laws.Externs
namespace Go.Proofs.YbulkcbpgFmt
open Go.RowKit Go.Deep

theorem f64from_run (b : Int) (w : World) : (callFunc 20 #[.int .u64 b]).run Ybaf.prog w = .ok (.value (.float .f64 b.toNat)) w := by
  rw [run_callFunc_extern Ybaf.func20 (by kernel_rfl) (by kernel_rfl) (by kernel_rfl) (e := Extern.MathFloatBits.float64frombits) (by kernel_rfl)]
  rfl
theorem f32from_run (b : Int) (w : World) : (callFunc 24 #[.int .u32 b]).run Ybaf.prog w = .ok (.value (.float .f32 b.toNat)) w := by
  rw [run_callFunc_extern Ybaf.func24 (by kernel_rfl) (by kernel_rfl) (by kernel_rfl) (e := Extern.MathFloatBits.float32frombits) (by kernel_rfl)]
  rfl

/-- What 'put' appends to field i. -/
def val : Nat → Int → Value
  | 0, v => .float .f64 v.toNat
  | 1, v => .float .f32 (v % 4294967296).toNat
  | 2, v => .int .u32 (v % 4294967296)
  | 3, v => .int .u64 v
  | 4, v => .int .i32 (wrap32 (v % 4294967296))
  | 5, v => .int .i64 (wrap64 v)
  | _, v => .bool (v != 0)

theorem MsgAt.cell_alloc {w : World} {p : Nat} {M : Nat → List Value} {V : Nat → Value} (h : MsgAt w p M V) {i : Nat} (hi : i < 8) (o : Obj) : (w.alloc o).cell? ⟨p, i, none⟩ = some (V i) := (h.blk.alloc o).cell hi

set_option maxHeartbeats 800000 in
theorem put0 (p : Nat) (M : Nat → List Value) (V : Nat → Value) (v : Int) (w : World) (h : MsgAt w p M V) (hb : (M 0).length + 1 ≤ 1099511627776) :
    Calls Ybaf.prog 13 #[.pointer (some ⟨p, 0, none⟩), .int .i64 0, .int .u64 v] w fun e w' => e = .returned (.tuple #[]) ∧ Upd w w' p V (put M 0 [val 0 v]) := by
  have hc := h.blk.cell (i := 0) (by omega)
  have hca := fun o => h.cell_alloc (i := 0) (by omega) o
  have q1 := f64from_run
  go_enter Ybaf.func13, Ybaf.ntmps13
  go_wp2_with fail
  go_region_law (first
    | (refine step_msg_append rfl 0 (by decide) _ _ rfl h (((Chg.refl _ _).drew).alloc _) rfl ⟨w.heap.size, 0, none⟩ 1 1 [val 0 v] rfl rfl (one_cell rfl) (one_one rfl) (by decide) ((M 0).length + 1) rfl hb ?_; intro g cap w1 hA; have hc1 := hA.cell; have hf1 := hA.frozen))
  all_goals
    go_wp2
    first | go_end0 | refine bodyPost_ret (results_none rfl _ _ _) rfl ?_
    exact ⟨rfl, hA.upd⟩

set_option maxHeartbeats 800000 in
theorem put1 (p : Nat) (M : Nat → List Value) (V : Nat → Value) (v : Int) (w : World) (h : MsgAt w p M V) (hb : (M 1).length + 1 ≤ 1099511627776) :
    Calls Ybaf.prog 13 #[.pointer (some ⟨p, 0, none⟩), .int .i64 1, .int .u64 v] w fun e w' => e = .returned (.tuple #[]) ∧ Upd w w' p V (put M 1 [val 1 v]) := by
  have hc := h.blk.cell (i := 1) (by omega)
  have hca := fun o => h.cell_alloc (i := 1) (by omega) o
  have q1 := f32from_run
  go_enter Ybaf.func13, Ybaf.ntmps13
  go_wp2_with fail
  go_region_law (first
    | (refine step_msg_append rfl 1 (by decide) _ _ rfl h (((Chg.refl _ _).drew).alloc _) rfl ⟨w.heap.size, 0, none⟩ 1 1 [val 1 v] rfl rfl (one_cell rfl) (one_one rfl) (by decide) ((M 1).length + 1) rfl hb ?_; intro g cap w1 hA; have hc1 := hA.cell; have hf1 := hA.frozen))
  all_goals
    go_wp2
    first | go_end0 | refine bodyPost_ret (results_none rfl _ _ _) rfl ?_
    exact ⟨rfl, hA.upd⟩

set_option maxHeartbeats 800000 in
theorem put2 (p : Nat) (M : Nat → List Value) (V : Nat → Value) (v : Int) (w : World) (h : MsgAt w p M V) (hb : (M 2).length + 1 ≤ 1099511627776) :
    Calls Ybaf.prog 13 #[.pointer (some ⟨p, 0, none⟩), .int .i64 2, .int .u64 v] w fun e w' => e = .returned (.tuple #[]) ∧ Upd w w' p V (put M 2 [val 2 v]) := by
  have hc := h.blk.cell (i := 2) (by omega)
  go_enter Ybaf.func13, Ybaf.ntmps13
  go_wp2_with (first
    | (at_builtin; refine wpList_msg_append rfl 2 (by decide) _ _ rfl h ((Chg.refl _ _).alloc _) rfl ⟨w.heap.size, 0, none⟩ 1 1 [val 2 v] rfl rfl (one_cell rfl) (one_one rfl) (by decide) ((M 2).length + 1) rfl hb ?_; intro g cap w1 hA; have hc1 := hA.cell; have hf1 := hA.frozen))
  first | go_end0 | refine bodyPost_ret (results_none rfl _ _ _) rfl ?_
  exact ⟨rfl, hA.upd⟩

set_option maxHeartbeats 800000 in
theorem put3 (p : Nat) (M : Nat → List Value) (V : Nat → Value) (v : Int) (w : World) (h : MsgAt w p M V) (hb : (M 3).length + 1 ≤ 1099511627776) :
    Calls Ybaf.prog 13 #[.pointer (some ⟨p, 0, none⟩), .int .i64 3, .int .u64 v] w fun e w' => e = .returned (.tuple #[]) ∧ Upd w w' p V (put M 3 [val 3 v]) := by
  have hc := h.blk.cell (i := 3) (by omega)
  go_enter Ybaf.func13, Ybaf.ntmps13
  go_wp2_with (first
    | (at_builtin; refine wpList_msg_append rfl 3 (by decide) _ _ rfl h ((Chg.refl _ _).alloc _) rfl ⟨w.heap.size, 0, none⟩ 1 1 [val 3 v] rfl rfl (one_cell rfl) (one_one rfl) (by decide) ((M 3).length + 1) rfl hb ?_; intro g cap w1 hA; have hc1 := hA.cell; have hf1 := hA.frozen))
  first | go_end0 | refine bodyPost_ret (results_none rfl _ _ _) rfl ?_
  exact ⟨rfl, hA.upd⟩

set_option maxHeartbeats 800000 in
theorem put4 (p : Nat) (M : Nat → List Value) (V : Nat → Value) (v : Int) (w : World) (h : MsgAt w p M V) (hb : (M 4).length + 1 ≤ 1099511627776) :
    Calls Ybaf.prog 13 #[.pointer (some ⟨p, 0, none⟩), .int .i64 4, .int .u64 v] w fun e w' => e = .returned (.tuple #[]) ∧ Upd w w' p V (put M 4 [val 4 v]) := by
  have hc := h.blk.cell (i := 4) (by omega)
  go_enter Ybaf.func13, Ybaf.ntmps13
  go_wp2_with (first
    | (at_builtin; refine wpList_msg_append rfl 4 (by decide) _ _ rfl h ((Chg.refl _ _).alloc _) rfl ⟨w.heap.size, 0, none⟩ 1 1 [val 4 v] rfl rfl (one_cell rfl) (one_one rfl) (by decide) ((M 4).length + 1) rfl hb ?_; intro g cap w1 hA; have hc1 := hA.cell; have hf1 := hA.frozen))
  first | go_end0 | refine bodyPost_ret (results_none rfl _ _ _) rfl ?_
  exact ⟨rfl, hA.upd⟩

set_option maxHeartbeats 800000 in
theorem put5 (p : Nat) (M : Nat → List Value) (V : Nat → Value) (v : Int) (w : World) (h : MsgAt w p M V) (hb : (M 5).length + 1 ≤ 1099511627776) :
    Calls Ybaf.prog 13 #[.pointer (some ⟨p, 0, none⟩), .int .i64 5, .int .u64 v] w fun e w' => e = .returned (.tuple #[]) ∧ Upd w w' p V (put M 5 [val 5 v]) := by
  have hc := h.blk.cell (i := 5) (by omega)
  go_enter Ybaf.func13, Ybaf.ntmps13
  go_wp2_with (first
    | (at_builtin; refine wpList_msg_append rfl 5 (by decide) _ _ rfl h ((Chg.refl _ _).alloc _) rfl ⟨w.heap.size, 0, none⟩ 1 1 [val 5 v] rfl rfl (one_cell rfl) (one_one rfl) (by decide) ((M 5).length + 1) rfl hb ?_; intro g cap w1 hA; have hc1 := hA.cell; have hf1 := hA.frozen))
  first | go_end0 | refine bodyPost_ret (results_none rfl _ _ _) rfl ?_
  exact ⟨rfl, hA.upd⟩

set_option maxHeartbeats 800000 in
theorem put6 (p : Nat) (M : Nat → List Value) (V : Nat → Value) (v : Int) (w : World) (h : MsgAt w p M V) (hb : (M 6).length + 1 ≤ 1099511627776) :
    Calls Ybaf.prog 13 #[.pointer (some ⟨p, 0, none⟩), .int .i64 6, .int .u64 v] w fun e w' => e = .returned (.tuple #[]) ∧ Upd w w' p V (put M 6 [val 6 v]) := by
  have hc := h.blk.cell (i := 6) (by omega)
  go_enter Ybaf.func13, Ybaf.ntmps13
  go_wp2_with (first
    | (at_builtin; refine wpList_msg_append rfl 6 (by decide) _ _ rfl h ((Chg.refl _ _).alloc _) rfl ⟨w.heap.size, 0, none⟩ 1 1 [val 6 v] rfl rfl (one_cell rfl) (one_one rfl) (by decide) ((M 6).length + 1) rfl hb ?_; intro g cap w1 hA; have hc1 := hA.cell; have hf1 := hA.frozen))
  first | go_end0 | refine bodyPost_ret (results_none rfl _ _ _) rfl ?_
  exact ⟨rfl, hA.upd⟩

theorem put_any (i : Nat) (hi : i < 7) (p : Nat) (M : Nat → List Value) (V : Nat → Value) (v : Int) (w : World) (h : MsgAt w p M V) (hb : (M i).length + 1 ≤ 1099511627776) :
    Calls Ybaf.prog 13 #[.pointer (some ⟨p, 0, none⟩), .int .i64 i, .int .u64 v] w fun e w' => e = .returned (.tuple #[]) ∧ Upd w w' p V (put M i [val i v]) := by
  have hc : i = 0 ∨ i = 1 ∨ i = 2 ∨ i = 3 ∨ i = 4 ∨ i = 5 ∨ i = 6 := by omega
  rcases hc with rfl | rfl | rfl | rfl | rfl | rfl | rfl
  · exact put0 p M V v w h hb
  · exact put1 p M V v w h hb
  · exact put2 p M V v w h hb
  · exact put3 p M V v w h hb
  · exact put4 p M V v w h hb
  · exact put5 p M V v w h hb
  · exact put6 p M V v w h hb

end Go.Proofs.YbulkcbpgFmt
