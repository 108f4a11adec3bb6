/-
  Seat b3938a: '(*reader).at', '(*reader).codeUnit': their contracts.
-/
import Derived.Test.YbulkccnmRows
import Derived.WalkKit
import Derived.WalkSpells
import Derived.Deep.LoopGhost
namespace Go.Proofs.Ybulkccnm.Walks
open Go.RowKit

/-! ### The plain function: the hexadecimal digits behind an offset -/

def hv (c : Int) : Option Int := if 48 ≤ c ∧ c ≤ 57 then some (c - 48) else if 97 ≤ c ∧ c ≤ 102 then some (c - 97 + 10) else if 65 ≤ c ∧ c ≤ 70 then some (c - 65 + 10) else none

/-- The value of the first k digits of D from offset i on. -/
def acc (D : Nat → Int) (i : Nat) : Nat → Option Int
  | 0 => some 0
  | k + 1 => (acc D i k).bind fun u => (hv (D (i + k))).map fun d => u * 16 + d

theorem hv_bd {c d : Int} (h : hv c = some d) : 0 ≤ d ∧ d ≤ 15 := by
  unfold hv at h
  split at h
  · cases h; omega
  · split at h
    · cases h; omega
    · split at h
      · cases h; omega
      · cases h

theorem acc_bd (D : Nat → Int) (i : Nat) : ∀ k u, k ≤ 4 → acc D i k = some u → 0 ≤ u ∧ u < 16 ^ k := by
  intro k
  induction k with
  | zero => intro u _ h; cases h; decide
  | succ k ih =>
    intro u hk h
    simp only [acc, Option.bind_eq_some_iff, Option.map_eq_some_iff] at h
    obtain ⟨v, hv', d, hd, rfl⟩ := h
    have := ih v (by omega) hv'
    have := hv_bd hd
    rw [Int.pow_succ]
    omega

theorem acc_none (D : Nat → Int) (i k : Nat) (h : acc D i k = none) : ∀ m, acc D i (k + m) = none := by
  intro m
  induction m with
  | zero => exact h
  | succ m ih => show ((acc D i (k + m)).bind _) = none; rw [ih]; rfl

theorem or_low (x d : Int) (h0 : 0 ≤ x) (h1 : x ≤ 4095) (h2 : 0 ≤ d) (h3 : d ≤ 15) : bits .or .i32 (x * 16) d = x * 16 + d := by
  obtain ⟨a, rfl⟩ := Int.eq_ofNat_of_zero_le h0
  obtain ⟨b, rfl⟩ := Int.eq_ofNat_of_zero_le h2
  have e : ((a : Int) * 16) = ((2 ^ 4 * a : Nat) : Int) := by omega
  have o : (2 ^ 4 * a ||| b) = 2 ^ 4 * a + b := (Nat.two_pow_add_eq_or_of_lt (by omega : b < 2 ^ 4) a).symm
  have n : (BitVec.ofInt 32 ((2 ^ 4 * a : Nat) : Int) ||| BitVec.ofInt 32 (b : Int)).toNat = 2 ^ 4 * a + b := by
    rw [BitVec.toNat_or, BitVec.toNat_ofInt, BitVec.toNat_ofInt, ← o]
    congr 1 <;> omega
  show IntKind.i32.wrap (((BitVec.ofInt 32 ((a : Int) * 16) ||| BitVec.ofInt 32 (b : Int)).toNat : Nat) : Int) = _
  rw [e, n, IntKind.wrap_i32]
  omega

theorem acc_step {D : Nat → Int} {i k : Nat} {x c d : Int} (hx : acc D i k = some x) (hc : D (i + k) = c) (hd : hv c = some d) : acc D i (k + 1) = some (x * 16 + d) := by
  show ((acc D i k).bind fun u => (hv (D (i + k))).map fun d => u * 16 + d) = _
  rw [hx, hc, hd]; rfl

theorem acc_stop {D : Nat → Int} {i k : Nat} {x c : Int} (hx : acc D i k = some x) (hc : D (i + k) = c) (hd : hv c = none) (hk : k < 4) : acc D i 4 = none := by
  have h : acc D i (k + 1) = none := by
    show ((acc D i k).bind fun u => (hv (D (i + k))).map fun d => u * 16 + d) = _
    rw [hx, hc, hd]; rfl
  have := acc_none D i (k + 1) h (4 - (k + 1))
  rwa [show k + 1 + (4 - (k + 1)) = 4 by omega] at this

theorem rel_step {D : Nat → Int} {i k : Nat} {x c d : Int} (hx : Hid (acc D i k = some x)) (hc : Hid (D (i + k) = c)) (hd : hv c = some d) (h0 : 0 ≤ x) (h1 : x ≤ 4095) : acc D i (k + 1) = some (bits .or .i32 (x * 16) d) := by
  have := hv_bd hd
  rw [or_low x d h0 h1 this.1 this.2]
  exact acc_step hx.out hc.out hd

/-! ### The walks -/

theorem at_in (R G len cap : Nat) (D : Nat → Int) (i : Int) (w : World) (h0 : 0 ≤ i) (hi : i < (len : Int)) (hr : w.cell? ⟨R, 0, none⟩ = some (.slice (some ⟨G, 0, none⟩) len cap)) (hc : ∀ j, j < len → w.cell? ⟨G, j, none⟩ = some (.int .u8 (D j))) :
    Calls Yba.prog 8 #[.pointer (some ⟨R, 0, none⟩), .int .i64 i] w fun e w' => e = .returned (.int .u8 (D i.toNat)) ∧ w' = w := by
  have hg := hc i.toNat (by omega)
  clear hc
  go_enter Yba.func8, Yba.ntmps8
  go_wp2
  go_ret
  exact ⟨rfl, rfl⟩

set_option maxHeartbeats 400000 in
theorem code_short (R G len cap : Nat) (D : Nat → Int) (i : Nat) (w : World) (hi : i + 2 ≤ len) (hl : len < i + 6) (hm : len ≤ 4096) (hr : w.cell? ⟨R, 0, none⟩ = some (.slice (some ⟨G, 0, none⟩) len cap)) (hc : ∀ j, j < len → w.cell? ⟨G, j, none⟩ = some (.int .u8 (D j)))
    (d0 : D i = 92) (d1 : D (i + 1) = 117) :
    Calls Yba.prog 5 #[.pointer (some ⟨R, 0, none⟩), .int .i64 i] w fun e w' => e = .returned (.tuple #[.int .i32 0, .bool false]) ∧ w' = w := by
  have e1 : ((i : Int) + 1).toNat = i + 1 := by omega
  go_enter Yba.func5, Yba.ntmps5
  go_wp2_with fail
  refine (at_in R G len cap D i w (by omega) (by omega) hr hc).mono ?_
  rintro e w' ⟨rfl, rfl⟩
  rw [Int.toNat_natCast, d0]
  go_wp2_with fail
  refine (at_in R G len cap D _ w' (by omega) (by omega) hr hc).mono ?_
  rintro e w1 ⟨rfl, rfl⟩
  rw [e1, d1]
  go_wp2
  go_ret2
  exact ⟨rfl, rfl⟩

set_option maxHeartbeats 400000 in
theorem code_whole (R G len cap : Nat) (D : Nat → Int) (i : Nat) (w : World) (hl : i + 6 ≤ len) (hcap : len ≤ cap) (hcm : cap ≤ 4096) (hr : w.cell? ⟨R, 0, none⟩ = some (.slice (some ⟨G, 0, none⟩) len cap)) (hc : ∀ j, j < len → w.cell? ⟨G, j, none⟩ = some (.int .u8 (D j)))
    (hD : ∀ j, 0 ≤ D j ∧ D j ≤ 255)
    (d0 : D i = 92) (d1 : D (i + 1) = 117) :
    Calls Yba.prog 5 #[.pointer (some ⟨R, 0, none⟩), .int .i64 i] w fun e w' => e = .returned (.tuple #[.int .i32 ((acc D (i + 2) 4).getD 0), .bool (acc D (i + 2) 4).isSome]) ∧ w' = w := by
  have e1 : ((i : Int) + 1).toNat = i + 1 := by omega
  go_enter Yba.func5, Yba.ntmps5
  go_wp2_with fail
  refine (at_in R G len cap D i w (by omega) (by omega) hr hc).mono ?_
  rintro e w' ⟨rfl, rfl⟩
  rw [Int.toNat_natCast, d0]
  go_wp2_with fail
  refine (at_in R G len cap D _ w' (by omega) (by omega) hr hc).mono ?_
  rintro e w1 ⟨rfl, rfl⟩
  rw [e1, d1]
  go_wp2_with fail
  clear hr d0 d1
  rw [show i + 6 - (i + 2) = 4 by omega]
  go_loopg [6, 40] 4 (fun g u t wx => wx = w1 ∧ ∃ (k : Nat) (x : Int), k ≤ 4 ∧ g = 4 - k ∧ t = .int .i64 k ∧ u = .int .i32 x ∧ acc D (i + 2) k = some x)
  case atStart => exact ⟨rfl, 0, 0, by omega, rfl, rfl, rfl, rfl⟩
  case round =>
    obtain ⟨rfl, k, x, hk, rfl, rfl, rfl, hacc⟩ := hrel
    have hb := acc_bd D (i + 2) k x hk hacc
    have HA : Hid (acc D (i + 2) k = some x) := hacc
    clear hacc
    by_cases hlt : k < 4
    · have hltz : (k : Int) < 4 := by omega
      have hx : x ≤ 4095 := by
        have h4 : k = 0 ∨ k = 1 ∨ k = 2 ∨ k = 3 := by omega
        rcases h4 with rfl | rfl | rfl | rfl <;> simp at hb <;> omega
      have hx0 := hb.1
      clear hb
      have hg := hc (i + 2 + k) (by omega)
      have hd := hD (i + 2 + k)
      clear hc hD
      generalize hcD : D (i + 2 + k) = c at *
      have HC : Hid (D (i + 2 + k) = c) := hcD
      clear hcD
      go_wp2
      any_goals
        go_roundg (4 - (k + 1))
        case measure => omega
        case rel => exact ⟨rfl, k + 1, _, by omega, rfl, by go_num, rfl, rel_step HA HC (by unfold hv; first | rw [if_pos (by omega)] | rw [if_neg (by omega), if_pos (by omega)] | rw [if_neg (by omega), if_neg (by omega), if_pos (by omega)]) hx0 hx⟩
      all_goals
        have hz := acc_stop HA.out HC.out (by unfold hv; rw [if_neg (by omega), if_neg (by omega), if_neg (by omega)]) hlt
        go_ret2
        exact ⟨by rw [hz]; rfl, rfl⟩
    · have hk4 : k = 4 := by omega
      subst hk4
      have hz := HA.out
      have HZ : Hid (acc D (i + 2) 4 = some x) := hz
      clear HA hz hc hD
      go_wp2
      go_ret2
      exact ⟨by rw [HZ.out]; rfl, rfl⟩

end Go.Proofs.Ybulkccnm.Walks
