/-
  Seat b3894a, LawS3894ATable: the pick, surestBut, the pointers' comparisons.
-/
import Derived.Test.YbulkcbpuRows
import Derived.WalkKit
import Derived.WalkSpells
import Derived.RegionTactic
import Derived.LaidEqlPtr
import Derived.Deep.OwnRows
import Derived.BigQuiet
namespace Go.Proofs.Ybulkcbpu.Walks
open Go.RowKit Go.Deep

/-- The pick: backend a of the three, or none. -/
def pk (N : Nat) (a : Int) : Option Addr := if a = 0 then some ⟨N, 0, none⟩ else if a = 1 then some ⟨N + 1, 0, none⟩ else if a = 2 then some ⟨N + 1 + 1, 0, none⟩ else none

/-- The three backends and the array of pointers to them lie at N and behind. -/
structure Laid (N : Nat) (W : World) : Prop where
  b0 : ∃ c, W.heap[N]? = some (.cells c 39 (0, 0))
  b1 : ∃ c, W.heap[N + 1]? = some (.cells c 39 (0, 0))
  b2 : ∃ c, W.heap[N + 1 + 1]? = some (.cells c 39 (0, 0))
  b3 : ∃ c, W.heap[N + 1 + 1 + 1]? = some (.cells c 40 (0, 0))
  c0 : W.cell? ⟨N + 1 + 1 + 1, 0, none⟩ = some (.pointer (some ⟨N, 0, none⟩))
  c1 : W.cell? ⟨N + 1 + 1 + 1, 1, none⟩ = some (.pointer (some ⟨N + 1, 0, none⟩))
  c2 : W.cell? ⟨N + 1 + 1 + 1, 2, none⟩ = some (.pointer (some ⟨N + 1 + 1, 0, none⟩))

theorem Laid.alloc {N : Nat} {W : World} (h : Laid N W) (o : Obj) : Laid N (W.alloc o) := by
  have lt : ∀ {k : Nat} {x : Obj}, W.heap[k]? = some x → k < W.heap.size := fun e => (Array.getElem?_eq_some_iff.1 e).1
  obtain ⟨⟨d0, b0⟩, ⟨d1, b1⟩, ⟨d2, b2⟩, ⟨d3, b3⟩, c0, c1, c2⟩ := h
  have h3 := lt b3
  refine ⟨⟨d0, ?_⟩, ⟨d1, ?_⟩, ⟨d2, ?_⟩, ⟨d3, ?_⟩, ?_, ?_, ?_⟩
  · rw [Below.heap_alloc _ _ _ (lt b0)]; exact b0
  · rw [Below.heap_alloc _ _ _ (lt b1)]; exact b1
  · rw [Below.heap_alloc _ _ _ (lt b2)]; exact b2
  · rw [Below.heap_alloc _ _ _ (lt b3)]; exact b3
  · rw [World.cell?_alloc_old _ _ _ (by show N + 1 + 1 + 1 ≠ W.heap.size; omega)]; exact c0
  · rw [World.cell?_alloc_old _ _ _ (by show N + 1 + 1 + 1 ≠ W.heap.size; omega)]; exact c1
  · rw [World.cell?_alloc_old _ _ _ (by show N + 1 + 1 + 1 ≠ W.heap.size; omega)]; exact c2

theorem Laid.drewN {N : Nat} {W : World} (h : Laid N W) (n : Nat) : Laid N (W.drewN n) := by
  have e : (W.drewN n).heap = W.heap := by simp
  obtain ⟨b0, b1, b2, b3, c0, c1, c2⟩ := h
  exact ⟨by rw [e]; exact b0, by rw [e]; exact b1, by rw [e]; exact b2, by rw [e]; exact b3, by simpa [World.cell?, e] using c0, by simpa [World.cell?, e] using c1, by simpa [World.cell?, e] using c2⟩

theorem cell3 {w : World} {B i : Nat} {c : Array Value} {t : TypeId} {v : Value} (hs : w.heap.size = B) (hv : c[i]? = some v := by rfl) : (w.alloc (.cells c t)).cell? ⟨B, i, none⟩ = some v := by
  have hb : (w.alloc (.cells c t)).heap[B]? = some (.cells c t (0, 0)) := by subst hs; exact blk_alloc_new _ _
  simp [World.cell?, hb, hv]

theorem laid_start (w : World) (x y z : Array Value) :
    Laid w.heap.size ((((w.alloc (.cells x 39)).alloc (.cells y 39)).alloc (.cells z 39)).alloc
      (.cells #[.pointer (some ⟨w.heap.size, 0, none⟩), .pointer (some ⟨w.heap.size + 1, 0, none⟩), .pointer (some ⟨w.heap.size + 1 + 1, 0, none⟩)] 40)) := by
  have s1 : (w.alloc (.cells x 39)).heap.size = w.heap.size + 1 := by simp
  have s2 : ((w.alloc (.cells x 39)).alloc (.cells y 39)).heap.size = w.heap.size + 1 + 1 := by simp
  have s3 : (((w.alloc (.cells x 39)).alloc (.cells y 39)).alloc (.cells z 39)).heap.size = w.heap.size + 1 + 1 + 1 := by simp
  refine ⟨⟨x, ?_⟩, ⟨y, ?_⟩, ⟨z, ?_⟩, ⟨#[.pointer (some ⟨w.heap.size, 0, none⟩), .pointer (some ⟨w.heap.size + 1, 0, none⟩), .pointer (some ⟨w.heap.size + 1 + 1, 0, none⟩)], ?_⟩, ?_, ?_, ?_⟩
  · rw [Below.heap_alloc _ _ _ (by omega), Below.heap_alloc _ _ _ (by omega), Below.heap_alloc _ _ _ (by omega)]; exact blk_alloc_new _ _
  · rw [Below.heap_alloc _ _ _ (by omega), Below.heap_alloc _ _ _ (by omega), ← s1]; exact blk_alloc_new _ _
  · rw [Below.heap_alloc _ _ _ (by omega), ← s2]; exact blk_alloc_new _ _
  · rw [← s3]; exact blk_alloc_new _ _
  all_goals exact cell3 s3

theorem pick_any (N : Nat) (a : Int) (w : World) (hL : Laid N w) (h0 : 0 ≤ a) (h1 : a ≤ 255) :
    Calls Yba.prog 6 #[.pointer (some ⟨N + 1 + 1 + 1, 0, none⟩), .int .u8 a] w fun e w' => e = .returned (.pointer (pk N (a % 4))) ∧ w' = w := by
  have hr : a % 4 = 0 ∨ a % 4 = 1 ∨ a % 4 = 2 ∨ a % 4 = 3 := by omega
  have c0 := hL.c0
  have c1 := hL.c1
  have c2 := hL.c2
  rcases hr with hr | hr | hr | hr
  all_goals
    go_enter Yba.func6, Yba.ntmps6
    go_wp2
    go_ret
    exact ⟨by rw [hr]; rfl, rfl⟩

theorem surest_yes (B : Nat) (b s n : Option Addr) (w : World) (c3 : w.cell? ⟨B, 3, none⟩ = some (.pointer s)) (c4 : w.cell? ⟨B, 4, none⟩ = some (.pointer n)) (hq : (binOp .eql 22 (.pointer b) (.pointer s)).run Yba.prog w = .ok (.bool true) w) :
    Calls Yba.prog 7 #[.pointer (some ⟨B, 0, none⟩), .pointer b] w fun e w' => e = .returned (.pointer n) ∧ w' = w := by
  go_enter Yba.func7, Yba.ntmps7
  go_wp2
  go_ret
  exact ⟨rfl, rfl⟩

theorem surest_no (B : Nat) (b s : Option Addr) (w : World) (c3 : w.cell? ⟨B, 3, none⟩ = some (.pointer s)) (hq : (binOp .eql 22 (.pointer b) (.pointer s)).run Yba.prog w = .ok (.bool false) w) :
    Calls Yba.prog 7 #[.pointer (some ⟨B, 0, none⟩), .pointer b] w fun e w' => e = .returned (.pointer s) ∧ w' = w := by
  go_enter Yba.func7, Yba.ntmps7
  go_wp2
  go_ret
  exact ⟨rfl, rfl⟩

theorem info39 : (Yba.prog.info? 39).map (fun i => i.size) = some 20 := by kernel_rfl

theorem run_eql_22 (p : Option Addr) (w : World) : (binOp .eql 22 (.pointer p) (.pointer p)).run Yba.prog w = .ok (.bool true) w := by
  obtain ⟨j, hj, _⟩ := Option.map_eq_some_iff.1 info39
  cases p with
  | none => exact run_eql_pointer_nil w 22 none (by kernel_rfl)
  | some a => exact run_eql_ptr_same w a Yba.underlying22 hj

theorem run_neq_22 (p : Option Addr) (w : World) : (binOp .neq 22 (.pointer p) (.pointer p)).run Yba.prog w = .ok (.bool false) w := by
  obtain ⟨j, hj, _⟩ := Option.map_eq_some_iff.1 info39
  cases p with
  | none => exact run_neq_pointer_nil w 22 none (by kernel_rfl)
  | some a =>
    have h : ∀ d : Nat, (Op.equalIn (d + 1) 22 (.pointer (some a)) (.pointer (some a))).run Yba.prog w = .ok true w := fun d => by
      simp [Op.equalIn, run_underlying Yba.underlying22, sizeOf, typeInfo, hj, run_sameAddr_same]
    simp only [binOp]
    simp [Op.equal, Op.maxDepth, h 9999]

theorem run_eql_nil_ptr (a : Addr) (w : World) : (binOp .eql 22 (.pointer none) (.pointer (some a))).run Yba.prog w = .ok (.bool false) w := by
  have h : ∀ d : Nat, (Op.equalIn (d + 1) 22 (.pointer none) (.pointer (some a))).run Yba.prog w = .ok false w := fun d => by
    simp [Op.equalIn, run_underlying Yba.underlying22]
  simp only [binOp]
  simp [Op.equal, Op.maxDepth, h 9999]

theorem run_eql_ptr_nil (a : Addr) (w : World) : (binOp .eql 22 (.pointer (some a)) (.pointer none)).run Yba.prog w = .ok (.bool false) w :=
  run_eql_pointer_nil w 22 (some a) (by kernel_rfl)

theorem run_eql_22_other (w : World) (a b : Addr) (ca cb : Array Value) (ta tb : TypeId) (hne : a ≠ b) (ha : w.heap[a.block]? = some (.cells ca ta (0, 0))) (hb : w.heap[b.block]? = some (.cells cb tb (0, 0))) :
    (binOp .eql 22 (.pointer (some a)) (.pointer (some b))).run Yba.prog w = .ok (.bool false) w := by
  obtain ⟨j, hj, hs⟩ := Option.map_eq_some_iff.1 info39
  exact run_eql_ptr_other w Yba.underlying22 hj (by omega) hne ha hb

theorem pk_ne (N : Nat) (a b : Int) (w : World) (hL : Laid N w) (a0 : 0 ≤ a) (a3 : a < 4) (b0 : 0 ≤ b) (b3 : b < 4) (hne : a ≠ b) : (binOp .eql 22 (.pointer (pk N a)) (.pointer (pk N b))).run Yba.prog w = .ok (.bool false) w := by
  obtain ⟨⟨d0, h0⟩, ⟨d1, h1⟩, ⟨d2, h2⟩, _, _, _, _⟩ := hL
  have ha : a = 0 ∨ a = 1 ∨ a = 2 ∨ a = 3 := by omega
  have hb : b = 0 ∨ b = 1 ∨ b = 2 ∨ b = 3 := by omega
  rcases ha with rfl | rfl | rfl | rfl <;> rcases hb with rfl | rfl | rfl | rfl
  all_goals first | exact absurd rfl hne | skip
  · exact run_eql_22_other w _ _ d0 d1 39 39 (by simp) h0 h1
  · exact run_eql_22_other w _ _ d0 d2 39 39 (by intro e; have := congrArg Addr.block e; simp at this; omega) h0 h2
  · exact run_eql_ptr_nil _ w
  · exact run_eql_22_other w _ _ d1 d0 39 39 (by simp) h1 h0
  · exact run_eql_22_other w _ _ d1 d2 39 39 (by simp) h1 h2
  · exact run_eql_ptr_nil _ w
  · exact run_eql_22_other w _ _ d2 d0 39 39 (by intro e; have := congrArg Addr.block e; simp at this; omega) h2 h0
  · exact run_eql_22_other w _ _ d2 d1 39 39 (by simp) h2 h1
  · exact run_eql_ptr_nil _ w
  · exact run_eql_nil_ptr _ w
  · exact run_eql_nil_ptr _ w
  · exact run_eql_nil_ptr _ w

end Go.Proofs.Ybulkcbpu.Walks
