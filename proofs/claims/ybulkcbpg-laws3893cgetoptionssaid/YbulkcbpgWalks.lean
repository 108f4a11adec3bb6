import Derived.Test.YbulkcbpgRows
import Derived.WalkKit
import Derived.WalkSpells
import Derived.RegionTactic
import Derived.LaidEqlPtr
import Derived.Deep.OwnRows
import Derived.Deep.LoopGhost

import Derived.BigQuiet
namespace Go.Proofs.Ybulkcbpg.Walks
open Go.RowKit Go.Deep

theorem info26 : (Yba.prog.info? 26).map (fun i => (i.zero, i.size, i.bytes)) = some (some (.pointer none), 1, 8) := by kernel_rfl

/-- The new options' own row, k of them made. -/
def top (N k : Nat) : Nat → Value := fun j => if j < k then .pointer (some ⟨N + 1 + j, 0, none⟩) else .pointer none

structure Made (w wr : World) (n k : Nat) (ss : Nat → ByteArray) : Prop where
  since : w.Since w.heap.size wr
  size : wr.heap.size = w.heap.size + 1 + k
  top : wr.rowIs w.heap.size 26 n (top w.heap.size k)
  done : ∀ j, j < k → wr.cell? ⟨w.heap.size + 1 + j, 0, none⟩ = some (.string (ss j))

theorem made_start (w : World) (n : Nat) (ss : Nat → ByteArray) : Made w (w.alloc (.cells (madeCells #[.pointer none] n) 26)) n 0 ss :=
  ⟨(World.Since.refl _ _).alloc (Nat.le_refl _) _, by simp, (World.rowIs_made w _ n 26).congr (fun j _ => by simp [Walks.top]), fun j hj => absurd hj (Nat.not_lt_zero _)⟩

theorem made_step {w wr : World} {n k : Nat} {ss : Nat → ByteArray} (h : Made w wr n k ss) (x y : Value) :
    Made w ((wr.alloc (.cells #[.string (ss k), x, y] 30)).setCell ⟨w.heap.size, k, none⟩ (.pointer (some ⟨w.heap.size + 1 + k, 0, none⟩))) n (k + 1) ss := by
  refine ⟨(h.since.alloc (by rw [h.size]; omega) _).setCell (Nat.le_refl _) _, by simp [h.size]; omega, ((h.top.alloc _).set k _).congr (fun j _ => ?_), fun j hj => ?_⟩
  · simp only [Walks.top]
    by_cases e : j = k
    · subst e; simp
    · rw [if_neg e]
      by_cases hlt : j < k
      · rw [if_pos hlt, if_pos (by omega)]
      · rw [if_neg hlt, if_neg (by omega)]
  · rw [World.cell?_setCell_other _ _ _ _ (fun e => by have := congrArg Addr.block e; simp at this; omega)]
    by_cases e : j = k
    · subst e
      rw [← h.size]
      simp
    · rw [World.cell?_alloc_old _ _ _ (by show w.heap.size + 1 + j ≠ wr.heap.size; rw [h.size]; omega)]
      exact h.done j (by omega)

theorem run_neq_ptr_same {P : Program} {tp te : TypeId} {j : TypeInfo} (a : Addr) (hp : P.underlying tp = some (.pointer te)) (hte : P.info? te = some j) (w : World) :
    (binOp .neq tp (.pointer (some a)) (.pointer (some a))).run P w = .ok (.bool false) w := by
  have h : ∀ d : Nat, (Op.equalIn (d + 1) tp (.pointer (some a)) (.pointer (some a))).run P w = .ok true w := fun d => by
    simp [Op.equalIn, run_underlying hp, sizeOf, typeInfo, hte, run_sameAddr_same]
  simp only [binOp]
  simp [Op.equal, Op.maxDepth, h 9999]

theorem info30 : (Yba.prog.info? 30).isSome = true := by kernel_rfl

theorem ne26 (a : Addr) (w : World) : (binOp .neq 26 (.pointer (some a)) (.pointer (some a))).run Yba.prog w = .ok (.bool false) w := by
  obtain ⟨j, hj⟩ := Option.isSome_iff_exists.1 info30
  exact run_neq_ptr_same a Yba.underlying26 hj w

/-- All is laid: the options' row, each option, and the Api: what the second loop and the last tests read. -/
structure Whole (w wx : World) (N n : Nat) (ss : Nat → ByteArray) (nm : ByteArray) (sl : Value) : Prop where
  since : w.Since w.heap.size wx
  opt : ∀ j, j < n → wx.cell? ⟨N, j, none⟩ = some (.pointer (some ⟨N + 1 + j, 0, none⟩))
  nam : ∀ j, j < n → wx.cell? ⟨N + 1 + j, 0, none⟩ = some (.string (ss j))
  m0 : wx.cell? ⟨N + 1 + n, 0, none⟩ = some (.string nm)
  m2 : wx.cell? ⟨N + 1 + n, 2, none⟩ = some sl
  m3 : wx.cell? ⟨N + 1 + n, 3, none⟩ = some (.string nm)
  m6 : wx.cell? ⟨N + 1 + n, 6, none⟩ = some (.int .i32 n)

theorem Whole.drew {w wx : World} {N n : Nat} {ss : Nat → ByteArray} {nm : ByteArray} {sl : Value} (h : Whole w wx N n ss nm sl) : Whole w wx.drew N n ss nm sl :=
  ⟨h.since.drew, h.opt, h.nam, h.m0, h.m2, h.m3, h.m6⟩

theorem whole_start {w wr : World} {n : Nat} {ss : Nat → ByteArray} {nm : ByteArray} {sl : Value} (h : Made w wr n n ss) (a b c d : Value) :
    Whole w (wr.alloc (.cells #[.string nm, a, sl, .string nm, b, c, .int .i32 n, d] 36)) w.heap.size n ss nm sl := by
  have hs := h.size
  refine ⟨h.since.alloc (by omega) _, fun j hj => ?_, fun j hj => ?_, ?_, ?_, ?_, ?_⟩
  · rw [World.cell?_alloc_old _ _ _ (by show w.heap.size ≠ wr.heap.size; omega), h.top.cell hj]
    simp [top, hj]
  · rw [World.cell?_alloc_old _ _ _ (by show w.heap.size + 1 + j ≠ wr.heap.size; omega)]
    exact h.done j hj
  all_goals (rw [← hs]; simp)

set_option maxHeartbeats 800000 in
set_option maxRecDepth 100000 in
theorem law_some (x : Addr) (b off n cap : Nat) (ss : Nat → ByteArray) (nm : ByteArray) (w : World) (hn : n ≤ 1024) (hx : 0 < n → x = ⟨b, off, none⟩)
    (hcell : ∀ i, i < n → w.cell? ⟨b, off + i, none⟩ = some (.string (ss i))) :
    Calls Yba.prog 3 #[.slice (some x) n cap, .bool false, .string nm] w fun e w' => e = .returned (.bool true) ∧ w.Since w.heap.size w' := by
  have hmk := run_make_row' (P := Yba.prog) 24 26 (.pointer none) 8 Yba.underlying24 info26 rfl .i64 .i64 n (by omega) (by omega)
  have hq : ∀ (w : World), (binOp .neq 22 (.slice (some x) n cap) (.slice none 0 0)).run Yba.prog w = .ok (.bool true) w := fun w => run_neq_slice_nil_any w 22 9 (some x) n cap 0 0 Yba.underlying22
  have hn' : ¬ (1024 : Int) < (n : Int) := by omega
  go_enter Yba.func3, Yba.ntmps3
  go_wp2
  clear hmk hq
  go_loopg [9] n (fun g i wr => ∃ k : Nat, k ≤ n ∧ g = n - k ∧ i = .int .i64 k ∧ Made w wr n k ss)
  case atStart => exact ⟨0, Nat.zero_le _, rfl, rfl, made_start w n ss⟩
  case round =>
    obtain ⟨k, hk, rfl, rfl, hM⟩ := hrel
    by_cases hlt : k < n
    · obtain rfl := hx (by omega)
      have hltz : (k : Int) < (n : Int) := by omega
      have hb : b < w.heap.size := World.block_lt_of_cell? _ _ (hcell k hlt)
      have hsize := hM.size
      have g0 : wr.cell? ⟨b, off + k, none⟩ = some (.string (ss k)) := by rw [hM.since.cell (a := ⟨b, off + k, none⟩) hb]; exact hcell k hlt
      have hst1 : ∀ o, (wr.alloc o).cell? ⟨w.heap.size, k, none⟩ = some (top w.heap.size k k) := fun o => (hM.top.alloc o).cell hlt
      have hst2 : ∀ o, (wr.alloc o).frozen? ⟨w.heap.size, k, none⟩ = false := fun o => (hM.top.alloc o).frozen k
      clear hcell hx
      go_wp2
      go_roundg (n - (k + 1))
      case measure => omega
      case rel => exact ⟨k + 1, by omega, rfl, by go_num, made_step hM _ _⟩
    · have hkn : k = n := by omega
      subst hkn
      have hsize := hM.size
      have hltz : ¬ (k : Int) < (k : Int) := by omega
      have hq1 : ∀ (w w1 : World), (binOp .eql 24 (.slice (some ⟨w.heap.size, 0, none⟩) k k) (.slice none 0 0)).run Yba.prog w1 = .ok (.bool false) w1 := fun w w1 => Lib.run_eql_slice_nil w1 24 26 _ k k 0 0 Yba.underlying24
      clear hlt
      go_wp2
      have hW := whole_start (nm := nm) (sl := .slice (some ⟨w.heap.size, 0, none⟩) k k) hM (.slice none 0 0) (.pointer none) (.slice none 0 0) (.slice none 0 0)
      clear hM hsize hk hltz
      go_loopg [12] k (fun g i wx => ∃ j : Nat, j ≤ k ∧ g = k - j ∧ i = .int .i64 j ∧ Whole w wx w.heap.size k ss nm (.slice (some ⟨w.heap.size, 0, none⟩) k k))
      case atStart => exact ⟨0, Nat.zero_le _, rfl, rfl, hW⟩
      case round =>
        clear hW
        obtain ⟨j, hj, rfl, rfl, hW⟩ := hrel
        by_cases hlt : j < k
        · obtain rfl := hx (by omega)
          have hltz : (j : Int) < (k : Int) := by omega
          have hb : b < w.heap.size := World.block_lt_of_cell? _ _ (hcell j hlt)
          have g0 : wr.cell? ⟨b, off + j, none⟩ = some (.string (ss j)) := by rw [hW.since.cell (a := ⟨b, off + j, none⟩) hb]; exact hcell j hlt
          have g1 := hW.opt j hlt
          have g2 := hW.nam j hlt
          have q := ne26
          clear hcell hx
          go_wp2
          go_region
          go_wp2
          go_region
          go_wp2
          go_roundg (k - (j + 1))
          case measure => omega
          case rel => exact ⟨j + 1, by omega, rfl, by go_num, hW.drew.drew⟩
        · have hjk : j = k := by omega
          subst hjk
          have hltz : ¬ (j : Int) < (j : Int) := by omega
          have g0 := hW.m0
          have g2 := hW.m2
          have g3 := hW.m3
          have g6 := hW.m6
          go_wp2
          go_ret
          exact ⟨rfl, hW.since⟩

theorem law_big (a : Option Addr) (n cap : Nat) (r : Bool) (nm : ByteArray) (w : World) (hn : (1024 : Int) < (n : Int)) :
    Calls Yba.prog 3 #[.slice a n cap, .bool r, .string nm] w fun e w' => e = .returned (.bool true) ∧ w.Since w.heap.size w' := by
  go_enter Yba.func3, Yba.ntmps3
  go_wp2
  go_ret
  exact ⟨rfl, World.Since.refl _ _⟩

theorem law_recv (a : Option Addr) (n cap : Nat) (nm : ByteArray) (w : World) (hn : ¬ (1024 : Int) < (n : Int)) :
    Calls Yba.prog 3 #[.slice a n cap, .bool true, .string nm] w fun e w' => e = .returned (.bool true) ∧ w.Since w.heap.size w' := by
  have hq1 : ∀ (w1 : World), (binOp .eql 24 (.slice none 0 0) (.slice none 0 0)).run Yba.prog w1 = .ok (.bool true) w1 := fun w1 => Lib.run_eql_slice_nil w1 24 26 none 0 0 0 0 Yba.underlying24
  go_enter Yba.func3, Yba.ntmps3
  go_wp2
  go_ret
  exact ⟨rfl, World.Since.refl _ _⟩

set_option maxHeartbeats 800000 in
set_option maxRecDepth 100000 in
theorem law_nil (nm : ByteArray) (w : World) :
    Calls Yba.prog 3 #[.slice none 0 0, .bool false, .string nm] w fun e w' => e = .returned (.bool true) ∧ w.Since w.heap.size w' := by
  have hq : ∀ (w : World), (binOp .neq 22 (.slice none 0 0) (.slice none 0 0)).run Yba.prog w = .ok (.bool false) w := fun w => run_neq_slice_nil_any w 22 9 none 0 0 0 0 Yba.underlying22
  have hq1 : ∀ (w1 : World), (binOp .eql 24 (.slice none 0 0) (.slice none 0 0)).run Yba.prog w1 = .ok (.bool true) w1 := fun w1 => Lib.run_eql_slice_nil w1 24 26 none 0 0 0 0 Yba.underlying24
  go_enter Yba.func3, Yba.ntmps3
  go_wp2
  go_loopg [12] 0 (fun g i wx => i = .int .i64 0 ∧ wx = w.alloc (.cells #[.string nm, .slice none 0 0, .slice none 0 0, .string nm, .pointer none, .slice none 0 0, .int .i32 0, .slice none 0 0] 36))
  case atStart => exact ⟨rfl, rfl⟩
  case round =>
    obtain ⟨rfl, rfl⟩ := hrel
    go_wp2
    go_ret
    exact ⟨rfl, (World.Since.refl _ _).alloc (Nat.le_refl _) _⟩

end Go.Proofs.Ybulkcbpg.Walks
