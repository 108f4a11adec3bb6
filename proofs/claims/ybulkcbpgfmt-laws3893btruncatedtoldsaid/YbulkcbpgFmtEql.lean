/-
  Seat b3893aF: slices.Equal at six element types.
-/
import Derived.Test.YbulkcbpgFmtScript
import Derived.BigQuiet
namespace Go.Proofs.YbulkcbpgFmt
open Go.RowKit Go.Deep
set_option linter.unusedVariables false

theorem f64bits_run (b : Nat) (w : World) : (callFunc 34 #[.float .f64 b]).run Ybaf.prog w = .ok (.value (.int .u64 b)) w := by
  rw [run_callFunc_extern Ybaf.func34 (by kernel_rfl) (by kernel_rfl) (by kernel_rfl) (e := Extern.MathFloatBits.float64bits) (by kernel_rfl)]
  rfl
theorem f32bits_run (b : Nat) (w : World) : (callFunc 35 #[.float .f32 b]).run Ybaf.prog w = .ok (.value (.int .u32 b)) w := by
  rw [run_callFunc_extern Ybaf.func35 (by kernel_rfl) (by kernel_rfl) (by kernel_rfl) (e := Extern.MathFloatBits.float32bits) (by kernel_rfl)]
  rfl

/-- An element of field i. -/
def Fits : Nat → Value → Prop
  | 0, x => ∃ b, x = .float .f64 b
  | 1, x => ∃ b, x = .float .f32 b
  | 2, x => ∃ n, x = .int .u32 n
  | 3, x => ∃ n, x = .int .u64 n
  | 4, x => ∃ n, x = .int .i32 n
  | 5, x => ∃ n, x = .int .i64 n
  | 6, x => ∃ b, x = .bool b
  | _, x => ∃ n, x = .int .u8 n

/-- The elements xs are read through v. -/
def RdX (w : World) (v : Value) (xs : List Value) : Prop :=
  ∃ a c g, v = .slice a xs.length c ∧ xs.length ≤ c ∧ (0 < xs.length → a = some ⟨g, 0, none⟩) ∧ ∀ j (hj : j < xs.length), w.cell? ⟨g, j, none⟩ = some xs[j]

theorem Row.rdX {w : World} {e : TypeId} {v : Value} {xs : List Value} (h : Row w e v xs) : RdX w v xs := by
  rcases h.2 with ⟨rfl, h2⟩ | ⟨g, cap, cur, rfl, hg, hh, hl, hm, hs, ht⟩
  · exact ⟨none, 0, 0, by rw [h2], by omega, fun h => by omega, fun j hj => by omega⟩
  · refine ⟨_, cap, g, rfl, hl, fun _ => rfl, fun j hj => ?_⟩
    have ht' : cur.toList.take xs.length = xs := by simpa using ht
    have hj2 : j < cur.toList.length := by simp; omega
    have e1 : cur.toList[j]? = some xs[j] := by
      rw [← List.getElem?_eq_getElem hj]
      conv => rhs; rw [← ht']
      rw [List.getElem?_take, if_pos hj]
    have := World.news_of_block hh j xs[j] e1
    have e : (⟨g, 0, none⟩ : Addr).add j = ⟨g, j, none⟩ := by
      unfold Addr.add
      split <;> simp_all
    rw [e] at this
    exact this


set_option maxHeartbeats 800000 in
theorem equal2_any (v u : Value) (xs : List Value) (w : World) (hv : RdX w v xs) (hu : RdX w u xs) (hx : ∀ x ∈ xs, Fits 2 x) (hl : xs.length ≤ 1099511627776) :
    Calls Ybaf.prog 36 #[v, u] w fun e w' => e = .returned (.bool true) ∧ ∃ k, w' = w.drewN k := by
  obtain ⟨a, c, g, rfl, hlc, ha, hcell⟩ := hv
  obtain ⟨a2, c2, g2, rfl, hlc2, ha2, hcell2⟩ := hu
  go_enter Ybaf.func36, Ybaf.ntmps36
  go_wp2_with fail
  go_loopg [5, 13] xs.length (fun gh r t wr => (∃ k, wr = w.drewN k) ∧ ∃ (j : Nat), j ≤ xs.length ∧ gh = xs.length - j ∧ t = .int .i64 j)
  case atStart => exact ⟨⟨0, rfl⟩, 0, by omega, by omega, rfl⟩
  case round =>
    obtain ⟨⟨k, rfl⟩, j, hj, rfl, rfl⟩ := hrel
    by_cases hjl : j < xs.length
    · obtain rfl := ha (by omega)
      obtain rfl := ha2 (by omega)
      have hcb : w.cell? _ = _ := hcell j hjl
      have hcb2 : w.cell? _ = _ := hcell2 j hjl
      have hltz : (j : Int) < (xs.length : Int) := by omega
      obtain ⟨y, hy⟩ := hx xs[j] (List.getElem_mem hjl)
      rw [hy] at hcb hcb2
      clear hcell ha hcell2 ha2 hx hy
      generalize xs.length = n at *
      go_wp2_with fail
      go_quiet (fail)
      go_wp2_with fail
      go_roundg (n - (j + 1))
      case measure => omega
      case rel => exact ⟨⟨_, rfl⟩, j + 1, by omega, rfl, by go_num⟩
    · have hltz : ¬ (j : Int) < (xs.length : Int) := by omega
      go_wp2_with fail
      go_ret
      exact ⟨rfl, _, rfl⟩

set_option maxHeartbeats 800000 in
theorem equal3_any (v u : Value) (xs : List Value) (w : World) (hv : RdX w v xs) (hu : RdX w u xs) (hx : ∀ x ∈ xs, Fits 3 x) (hl : xs.length ≤ 1099511627776) :
    Calls Ybaf.prog 37 #[v, u] w fun e w' => e = .returned (.bool true) ∧ ∃ k, w' = w.drewN k := by
  obtain ⟨a, c, g, rfl, hlc, ha, hcell⟩ := hv
  obtain ⟨a2, c2, g2, rfl, hlc2, ha2, hcell2⟩ := hu
  go_enter Ybaf.func37, Ybaf.ntmps37
  go_wp2_with fail
  go_loopg [5, 13] xs.length (fun gh r t wr => (∃ k, wr = w.drewN k) ∧ ∃ (j : Nat), j ≤ xs.length ∧ gh = xs.length - j ∧ t = .int .i64 j)
  case atStart => exact ⟨⟨0, rfl⟩, 0, by omega, by omega, rfl⟩
  case round =>
    obtain ⟨⟨k, rfl⟩, j, hj, rfl, rfl⟩ := hrel
    by_cases hjl : j < xs.length
    · obtain rfl := ha (by omega)
      obtain rfl := ha2 (by omega)
      have hcb : w.cell? _ = _ := hcell j hjl
      have hcb2 : w.cell? _ = _ := hcell2 j hjl
      have hltz : (j : Int) < (xs.length : Int) := by omega
      obtain ⟨y, hy⟩ := hx xs[j] (List.getElem_mem hjl)
      rw [hy] at hcb hcb2
      clear hcell ha hcell2 ha2 hx hy
      generalize xs.length = n at *
      go_wp2_with fail
      go_quiet (fail)
      go_wp2_with fail
      go_roundg (n - (j + 1))
      case measure => omega
      case rel => exact ⟨⟨_, rfl⟩, j + 1, by omega, rfl, by go_num⟩
    · have hltz : ¬ (j : Int) < (xs.length : Int) := by omega
      go_wp2_with fail
      go_ret
      exact ⟨rfl, _, rfl⟩

set_option maxHeartbeats 800000 in
theorem equal4_any (v u : Value) (xs : List Value) (w : World) (hv : RdX w v xs) (hu : RdX w u xs) (hx : ∀ x ∈ xs, Fits 4 x) (hl : xs.length ≤ 1099511627776) :
    Calls Ybaf.prog 38 #[v, u] w fun e w' => e = .returned (.bool true) ∧ ∃ k, w' = w.drewN k := by
  obtain ⟨a, c, g, rfl, hlc, ha, hcell⟩ := hv
  obtain ⟨a2, c2, g2, rfl, hlc2, ha2, hcell2⟩ := hu
  go_enter Ybaf.func38, Ybaf.ntmps38
  go_wp2_with fail
  go_loopg [5, 13] xs.length (fun gh r t wr => (∃ k, wr = w.drewN k) ∧ ∃ (j : Nat), j ≤ xs.length ∧ gh = xs.length - j ∧ t = .int .i64 j)
  case atStart => exact ⟨⟨0, rfl⟩, 0, by omega, by omega, rfl⟩
  case round =>
    obtain ⟨⟨k, rfl⟩, j, hj, rfl, rfl⟩ := hrel
    by_cases hjl : j < xs.length
    · obtain rfl := ha (by omega)
      obtain rfl := ha2 (by omega)
      have hcb : w.cell? _ = _ := hcell j hjl
      have hcb2 : w.cell? _ = _ := hcell2 j hjl
      have hltz : (j : Int) < (xs.length : Int) := by omega
      obtain ⟨y, hy⟩ := hx xs[j] (List.getElem_mem hjl)
      rw [hy] at hcb hcb2
      clear hcell ha hcell2 ha2 hx hy
      generalize xs.length = n at *
      go_wp2_with fail
      go_quiet (fail)
      go_wp2_with fail
      go_roundg (n - (j + 1))
      case measure => omega
      case rel => exact ⟨⟨_, rfl⟩, j + 1, by omega, rfl, by go_num⟩
    · have hltz : ¬ (j : Int) < (xs.length : Int) := by omega
      go_wp2_with fail
      go_ret
      exact ⟨rfl, _, rfl⟩

set_option maxHeartbeats 800000 in
theorem equal5_any (v u : Value) (xs : List Value) (w : World) (hv : RdX w v xs) (hu : RdX w u xs) (hx : ∀ x ∈ xs, Fits 5 x) (hl : xs.length ≤ 1099511627776) :
    Calls Ybaf.prog 39 #[v, u] w fun e w' => e = .returned (.bool true) ∧ ∃ k, w' = w.drewN k := by
  obtain ⟨a, c, g, rfl, hlc, ha, hcell⟩ := hv
  obtain ⟨a2, c2, g2, rfl, hlc2, ha2, hcell2⟩ := hu
  go_enter Ybaf.func39, Ybaf.ntmps39
  go_wp2_with fail
  go_loopg [5, 13] xs.length (fun gh r t wr => (∃ k, wr = w.drewN k) ∧ ∃ (j : Nat), j ≤ xs.length ∧ gh = xs.length - j ∧ t = .int .i64 j)
  case atStart => exact ⟨⟨0, rfl⟩, 0, by omega, by omega, rfl⟩
  case round =>
    obtain ⟨⟨k, rfl⟩, j, hj, rfl, rfl⟩ := hrel
    by_cases hjl : j < xs.length
    · obtain rfl := ha (by omega)
      obtain rfl := ha2 (by omega)
      have hcb : w.cell? _ = _ := hcell j hjl
      have hcb2 : w.cell? _ = _ := hcell2 j hjl
      have hltz : (j : Int) < (xs.length : Int) := by omega
      obtain ⟨y, hy⟩ := hx xs[j] (List.getElem_mem hjl)
      rw [hy] at hcb hcb2
      clear hcell ha hcell2 ha2 hx hy
      generalize xs.length = n at *
      go_wp2_with fail
      go_quiet (fail)
      go_wp2_with fail
      go_roundg (n - (j + 1))
      case measure => omega
      case rel => exact ⟨⟨_, rfl⟩, j + 1, by omega, rfl, by go_num⟩
    · have hltz : ¬ (j : Int) < (xs.length : Int) := by omega
      go_wp2_with fail
      go_ret
      exact ⟨rfl, _, rfl⟩

set_option maxHeartbeats 800000 in
theorem equal6_any (v u : Value) (xs : List Value) (w : World) (hv : RdX w v xs) (hu : RdX w u xs) (hx : ∀ x ∈ xs, Fits 6 x) (hl : xs.length ≤ 1099511627776) :
    Calls Ybaf.prog 40 #[v, u] w fun e w' => e = .returned (.bool true) ∧ ∃ k, w' = w.drewN k := by
  obtain ⟨a, c, g, rfl, hlc, ha, hcell⟩ := hv
  obtain ⟨a2, c2, g2, rfl, hlc2, ha2, hcell2⟩ := hu
  go_enter Ybaf.func40, Ybaf.ntmps40
  go_wp2_with fail
  go_loopg [5, 13] xs.length (fun gh r t wr => (∃ k, wr = w.drewN k) ∧ ∃ (j : Nat), j ≤ xs.length ∧ gh = xs.length - j ∧ t = .int .i64 j)
  case atStart => exact ⟨⟨0, rfl⟩, 0, by omega, by omega, rfl⟩
  case round =>
    obtain ⟨⟨k, rfl⟩, j, hj, rfl, rfl⟩ := hrel
    by_cases hjl : j < xs.length
    · obtain rfl := ha (by omega)
      obtain rfl := ha2 (by omega)
      have hcb : w.cell? _ = _ := hcell j hjl
      have hcb2 : w.cell? _ = _ := hcell2 j hjl
      have hltz : (j : Int) < (xs.length : Int) := by omega
      obtain ⟨y, hy⟩ := hx xs[j] (List.getElem_mem hjl)
      rw [hy] at hcb hcb2
      clear hcell ha hcell2 ha2 hx hy
      generalize xs.length = n at *
      go_wp2_with fail
      go_quiet (fail)
      go_wp2_with fail
      go_roundg (n - (j + 1))
      case measure => omega
      case rel => exact ⟨⟨_, rfl⟩, j + 1, by omega, rfl, by go_num⟩
    · have hltz : ¬ (j : Int) < (xs.length : Int) := by omega
      go_wp2_with fail
      go_ret
      exact ⟨rfl, _, rfl⟩

set_option maxHeartbeats 800000 in
theorem equal7_any (v u : Value) (xs : List Value) (w : World) (hv : RdX w v xs) (hu : RdX w u xs) (hx : ∀ x ∈ xs, Fits 7 x) (hl : xs.length ≤ 1099511627776) :
    Calls Ybaf.prog 41 #[v, u] w fun e w' => e = .returned (.bool true) ∧ ∃ k, w' = w.drewN k := by
  obtain ⟨a, c, g, rfl, hlc, ha, hcell⟩ := hv
  obtain ⟨a2, c2, g2, rfl, hlc2, ha2, hcell2⟩ := hu
  go_enter Ybaf.func41, Ybaf.ntmps41
  go_wp2_with fail
  go_loopg [5, 13] xs.length (fun gh r t wr => (∃ k, wr = w.drewN k) ∧ ∃ (j : Nat), j ≤ xs.length ∧ gh = xs.length - j ∧ t = .int .i64 j)
  case atStart => exact ⟨⟨0, rfl⟩, 0, by omega, by omega, rfl⟩
  case round =>
    obtain ⟨⟨k, rfl⟩, j, hj, rfl, rfl⟩ := hrel
    by_cases hjl : j < xs.length
    · obtain rfl := ha (by omega)
      obtain rfl := ha2 (by omega)
      have hcb : w.cell? _ = _ := hcell j hjl
      have hcb2 : w.cell? _ = _ := hcell2 j hjl
      have hltz : (j : Int) < (xs.length : Int) := by omega
      obtain ⟨y, hy⟩ := hx xs[j] (List.getElem_mem hjl)
      rw [hy] at hcb hcb2
      clear hcell ha hcell2 ha2 hx hy
      generalize xs.length = n at *
      go_wp2_with fail
      go_quiet (fail)
      go_wp2_with fail
      go_roundg (n - (j + 1))
      case measure => omega
      case rel => exact ⟨⟨_, rfl⟩, j + 1, by omega, rfl, by go_num⟩
    · have hltz : ¬ (j : Int) < (xs.length : Int) := by omega
      go_wp2_with fail
      go_ret
      exact ⟨rfl, _, rfl⟩

end Go.Proofs.YbulkcbpgFmt
