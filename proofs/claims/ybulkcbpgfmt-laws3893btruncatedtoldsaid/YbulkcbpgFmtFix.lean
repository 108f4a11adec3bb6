/-
  Seat b3893aF: wiregen.ConsumeFixed64 and ConsumeFixed32, where the bytes are there.
-/
import Derived.Test.YbulkcbpgFmtTag
import Derived.BigQuiet
namespace Go.Proofs.YbulkcbpgFmt
open Go.RowKit Go.Deep
set_option linter.unusedVariables false

theorem cfixed_any (a : Option Addr) (n c : Nat) (s : Int) (w : World) (hs : s ≤ (n : Int)) : Calls Ybaf.prog 45 #[.slice a n c, .int .i64 s] w fun e w' => e = .returned (.tuple #[.int .i64 s, .nilIface]) ∧ w' = w := by
  go_enter Ybaf.func45, Ybaf.ntmps45
  go_wp2
  go_ret2
  exact ⟨rfl, rfl⟩

theorem or64_hi (a b : Int) (k : Nat) (m : Int) (hm : m = 2 ^ k) (ha0 : 0 ≤ a) (ha : a < m) (hb0 : 0 ≤ b) (hb : b * m < 18446744073709551616) (hk : m ≤ 18446744073709551616) : bits .or .u64 a (b * m) = a + b * m := by
  obtain ⟨A, rfl⟩ := Int.eq_ofNat_of_zero_le ha0
  obtain ⟨B, rfl⟩ := Int.eq_ofNat_of_zero_le hb0
  have e : (B : Int) * m = ((2 ^ k * B : Nat) : Int) := by
    rw [hm, Int.mul_comm, Int.natCast_mul, Int.natCast_pow]; rfl
  have hm' : m = ((2 ^ k : Nat) : Int) := by rw [hm, Int.natCast_pow]; rfl
  rw [e] at hb ⊢
  rw [or_hi A B k (by omega) (by omega) (by omega)]
  omega

theorem or32_hi (a b : Int) (k : Nat) (m : Int) (hm : m = 2 ^ k) (ha0 : 0 ≤ a) (ha : a < m) (hb0 : 0 ≤ b) (hb : b * m < 4294967296) (hk : m ≤ 4294967296) : bits .or .u32 a (b * m) = a + b * m := by
  obtain ⟨A, rfl⟩ := Int.eq_ofNat_of_zero_le ha0
  obtain ⟨B, rfl⟩ := Int.eq_ofNat_of_zero_le hb0
  have e : (B : Int) * m = ((2 ^ k * B : Nat) : Int) := by
    rw [hm, Int.mul_comm, Int.natCast_mul, Int.natCast_pow]; rfl
  have hm' : m = ((2 ^ k : Nat) : Int) := by rw [hm, Int.natCast_pow]; rfl
  rw [e] at hb ⊢
  have ha' : A < 2 ^ k := by omega
  rw [u32_or_nat A (2 ^ k * B) (by omega) (by omega), Nat.or_comm, ← Nat.two_pow_add_eq_or_of_lt ha' B, Nat.add_comm]
  omega

theorem sum8 (b : Nat → Int) (hb : ∀ j, 0 ≤ b j ∧ b j ≤ 255) : bits .or .u64 (bits .or .u64 (bits .or .u64 (bits .or .u64 (bits .or .u64 (bits .or .u64 (bits .or .u64 (b 0) (b 1 * 256)) (b 2 * 65536)) (b 3 * 16777216)) (b 4 * 4294967296)) (b 5 * 1099511627776)) (b 6 * 281474976710656)) (b 7 * 72057594037927936) = b 0 + b 1 * 256 + b 2 * 65536 + b 3 * 16777216 + b 4 * 4294967296 + b 5 * 1099511627776 + b 6 * 281474976710656 + b 7 * 72057594037927936 := by
  have hb0 := hb 0
  have hb1 := hb 1
  have hb2 := hb 2
  have hb3 := hb 3
  have hb4 := hb 4
  have hb5 := hb 5
  have hb6 := hb 6
  have hb7 := hb 7
  rw [or64_hi _ (b 1) 8 256 (by decide) (by omega) (by omega) (by omega) (by omega) (by omega)]
  rw [or64_hi _ (b 2) 16 65536 (by decide) (by omega) (by omega) (by omega) (by omega) (by omega)]
  rw [or64_hi _ (b 3) 24 16777216 (by decide) (by omega) (by omega) (by omega) (by omega) (by omega)]
  rw [or64_hi _ (b 4) 32 4294967296 (by decide) (by omega) (by omega) (by omega) (by omega) (by omega)]
  rw [or64_hi _ (b 5) 40 1099511627776 (by decide) (by omega) (by omega) (by omega) (by omega) (by omega)]
  rw [or64_hi _ (b 6) 48 281474976710656 (by decide) (by omega) (by omega) (by omega) (by omega) (by omega)]
  rw [or64_hi _ (b 7) 56 72057594037927936 (by decide) (by omega) (by omega) (by omega) (by omega) (by omega)]

theorem sum4 (b : Nat → Int) (hb : ∀ j, 0 ≤ b j ∧ b j ≤ 255) : bits .or .u32 (bits .or .u32 (bits .or .u32 (b 0) (b 1 * 256)) (b 2 * 65536)) (b 3 * 16777216) = b 0 + b 1 * 256 + b 2 * 65536 + b 3 * 16777216 := by
  have hb0 := hb 0
  have hb1 := hb 1
  have hb2 := hb 2
  have hb3 := hb 3
  rw [or32_hi _ (b 1) 8 256 (by decide) (by omega) (by omega) (by omega) (by omega) (by omega)]
  rw [or32_hi _ (b 2) 16 65536 (by decide) (by omega) (by omega) (by omega) (by omega) (by omega)]
  rw [or32_hi _ (b 3) 24 16777216 (by decide) (by omega) (by omega) (by omega) (by omega) (by omega)]

theorem split64 (v : Int) (h0 : 0 ≤ v) (h1 : v < 18446744073709551616) : v / 2 ^ (8 * 0) % 256 + v / 2 ^ (8 * 1) % 256 * 256 + v / 2 ^ (8 * 2) % 256 * 65536 + v / 2 ^ (8 * 3) % 256 * 16777216 + v / 2 ^ (8 * 4) % 256 * 4294967296 + v / 2 ^ (8 * 5) % 256 * 1099511627776 + v / 2 ^ (8 * 6) % 256 * 281474976710656 + v / 2 ^ (8 * 7) % 256 * 72057594037927936 = v := by
  simp only [Nat.mul_zero, Nat.reduceMul, Int.reducePow]
  omega

theorem split32 (v : Int) (h0 : 0 ≤ v) (h1 : v < 18446744073709551616) : v / 2 ^ (8 * 0) % 256 + v / 2 ^ (8 * 1) % 256 * 256 + v / 2 ^ (8 * 2) % 256 * 65536 + v / 2 ^ (8 * 3) % 256 * 16777216 = v % 4294967296 := by
  simp only [Nat.mul_zero, Nat.reduceMul, Int.reducePow]
  omega

set_option maxHeartbeats 1600000 in
theorem le64_core (g off n c : Nat) (b : Nat → Int) (w : World) (hn : 8 ≤ n) (hc : ∀ j, j < 8 → w.cell? ⟨g, off + j, none⟩ = some (.int .u8 (b j))) (hb : ∀ j, 0 ≤ b j ∧ b j ≤ 255) (V : Int) (hV : bits .or .u64 (bits .or .u64 (bits .or .u64 (bits .or .u64 (bits .or .u64 (bits .or .u64 (bits .or .u64 (b 0) (b 1 * 256)) (b 2 * 65536)) (b 3 * 16777216)) (b 4 * 4294967296)) (b 5 * 1099511627776)) (b 6 * 281474976710656)) (b 7 * 72057594037927936) = V) :
    Calls Ybaf.prog 46 #[.agg #[], .slice (some ⟨g, off, none⟩) n c] w fun e w' => e = .returned (.int .u64 V) ∧ Chg No w w' := by
  have hg : g < w.heap.size := World.block_lt_of_cell? _ _ (hc 0 (by omega))
  have k0 : ∀ j, j < 8 → ∀ o, (w.alloc o).cell? ⟨g, off + j, none⟩ = some (.int .u8 (b j)) := fun j hj o => by
    rw [World.cell?_alloc_old _ _ _ (by show g ≠ w.heap.size; omega)]; exact hc j hj
  have d0 : ∀ o, (w.alloc o).cell? ⟨g, off, none⟩ = some (.int .u8 (b 0)) := fun o => k0 0 (by omega) o
  have d1 := k0 1 (by omega)
  have d2 := k0 2 (by omega)
  have d3 := k0 3 (by omega)
  have d4 := k0 4 (by omega)
  have d5 := k0 5 (by omega)
  have d6 := k0 6 (by omega)
  have d7 := k0 7 (by omega)
  have n0 : 0 < n := by omega
  have n00 : (0 : Int) < (n : Int) := by omega
  have n1 : (1 : Int) < (n : Int) := by omega
  have n2 : (2 : Int) < (n : Int) := by omega
  have n3 : (3 : Int) < (n : Int) := by omega
  have n4 : (4 : Int) < (n : Int) := by omega
  have n5 : (5 : Int) < (n : Int) := by omega
  have n6 : (6 : Int) < (n : Int) := by omega
  have n7 : (7 : Int) < (n : Int) := by omega
  have hb0 := hb 0
  have hb1 := hb 1
  have hb2 := hb 2
  have hb3 := hb 3
  have hb4 := hb 4
  have hb5 := hb 5
  have hb6 := hb 6
  have hb7 := hb 7
  have HV : Hid (bits .or .u64 (bits .or .u64 (bits .or .u64 (bits .or .u64 (bits .or .u64 (bits .or .u64 (bits .or .u64 (b 0) (b 1 * 256)) (b 2 * 65536)) (b 3 * 16777216)) (b 4 * 4294967296)) (b 5 * 1099511627776)) (b 6 * 281474976710656)) (b 7 * 72057594037927936) = V) := hV
  clear hc k0 hb hV
  go_enter Ybaf.func46, Ybaf.ntmps46
  go_wp2_with fail
  go_quiet (fail)
  go_wp2
  go_ret
  exact ⟨by rw [HV.out]; rfl, ((Chg.refl _ _).alloc _).drewN _⟩

set_option maxHeartbeats 1600000 in
theorem le32_core (g off n c : Nat) (b : Nat → Int) (w : World) (hn : 4 ≤ n) (hc : ∀ j, j < 4 → w.cell? ⟨g, off + j, none⟩ = some (.int .u8 (b j))) (hb : ∀ j, 0 ≤ b j ∧ b j ≤ 255) (V : Int) (hV : bits .or .u32 (bits .or .u32 (bits .or .u32 (b 0) (b 1 * 256)) (b 2 * 65536)) (b 3 * 16777216) = V) :
    Calls Ybaf.prog 47 #[.agg #[], .slice (some ⟨g, off, none⟩) n c] w fun e w' => e = .returned (.int .u32 V) ∧ Chg No w w' := by
  have hg : g < w.heap.size := World.block_lt_of_cell? _ _ (hc 0 (by omega))
  have k0 : ∀ j, j < 4 → ∀ o, (w.alloc o).cell? ⟨g, off + j, none⟩ = some (.int .u8 (b j)) := fun j hj o => by
    rw [World.cell?_alloc_old _ _ _ (by show g ≠ w.heap.size; omega)]; exact hc j hj
  have d0 : ∀ o, (w.alloc o).cell? ⟨g, off, none⟩ = some (.int .u8 (b 0)) := fun o => k0 0 (by omega) o
  have d1 := k0 1 (by omega)
  have d2 := k0 2 (by omega)
  have d3 := k0 3 (by omega)
  have n0 : 0 < n := by omega
  have n00 : (0 : Int) < (n : Int) := by omega
  have n1 : (1 : Int) < (n : Int) := by omega
  have n2 : (2 : Int) < (n : Int) := by omega
  have n3 : (3 : Int) < (n : Int) := by omega
  have hb0 := hb 0
  have hb1 := hb 1
  have hb2 := hb 2
  have hb3 := hb 3
  have HV : Hid (bits .or .u32 (bits .or .u32 (bits .or .u32 (b 0) (b 1 * 256)) (b 2 * 65536)) (b 3 * 16777216) = V) := hV
  clear hc k0 hb hV
  go_enter Ybaf.func47, Ybaf.ntmps47
  go_wp2_with fail
  go_quiet (fail)
  go_wp2
  go_ret
  exact ⟨by rw [HV.out]; rfl, ((Chg.refl _ _).alloc _).drewN _⟩


theorem fx_get (x : Int) (n : Nat) : ∀ j (hj : j < (fx x n).length), (fx x n)[j] = x / 2 ^ (8 * j) % 256 := by
  induction n with
  | zero => intro j hj; simp [fx] at hj
  | succ n ih =>
    intro j hj
    have hl := fx_len x n
    have hj' : j < n + 1 := by rw [fx_len] at hj; exact hj
    by_cases e : j < n
    · have : (fx x (n + 1))[j]? = (fx x n)[j]? := by
        show (fx x n ++ [x / 2 ^ (8 * n) % 256])[j]? = _
        rw [List.getElem?_append_left (by omega)]
      rw [List.getElem?_eq_getElem hj, List.getElem?_eq_getElem (by omega)] at this
      rw [Option.some.inj this]; exact ih j (by omega)
    · have hjn : j = n := by omega
      subst hjn
      have : (fx x (j + 1))[j]? = some (x / 2 ^ (8 * j) % 256) := by
        show (fx x j ++ [x / 2 ^ (8 * j) % 256])[j]? = _
        rw [List.getElem?_append_right (by omega), hl, Nat.sub_self]; rfl
      rw [List.getElem?_eq_getElem hj] at this
      exact Option.some.inj this

/-- The bytes of a fixed value at the head of what is read. -/
theorem RdV.fix {w : World} {g : Nat} {v : Value} {x : Int} {n : Nat} {rest : List Int} (h : RdV w g v (fx x n ++ rest)) (hn : 0 < n) :
    ∃ off c, v = .slice (some ⟨g, off, none⟩) (n + rest.length) c ∧ ∀ j, j < n → w.cell? ⟨g, off + j, none⟩ = some (.int .u8 (x / 2 ^ (8 * j) % 256)) := by
  obtain ⟨a, c, off, rfl, hlc, ha, hcell⟩ := h
  have hl : (fx x n ++ rest).length = n + rest.length := by rw [List.length_append, fx_len]
  obtain rfl := ha (by omega)
  refine ⟨off, c, by rw [hl], fun j hj => ?_⟩
  rw [hcell j (by omega)]
  congr 2
  have hj' : j < (fx x n).length := by rw [fx_len]; exact hj
  rw [← fx_get x n j hj']
  exact List.getElem_append_left hj'

theorem b255 (x : Int) : ∀ j : Nat, 0 ≤ x / 2 ^ (8 * j) % 256 ∧ x / 2 ^ (8 * j) % 256 ≤ 255 := fun j => by omega

set_option maxHeartbeats 800000 in
theorem fixed64_any (g : Nat) (v : Value) (x : Int) (rest : List Int) (w : World) (h : RdV w g v (fx x 8 ++ rest)) (h0 : 0 ≤ x) (h1 : x < 18446744073709551616) :
    Calls Ybaf.prog 19 #[v] w fun e w' => e = .returned (.tuple #[.int .u64 x, .int .i64 8, .nilIface]) ∧ Chg No w w' := by
  obtain ⟨off, c, rfl, hc⟩ := h.fix (by decide)
  go_enter Ybaf.func19, Ybaf.ntmps19
  go_wp2_with fail
  refine (cfixed_any _ _ _ 8 w (by omega)).mono ?_
  rintro e w1 ⟨rfl, rfl⟩
  go_wp2_with fail
  refine (le64_core g off _ c (fun j => x / 2 ^ (8 * j) % 256) _ (by omega) hc (b255 x) x (by rw [sum8 _ (b255 x)]; exact split64 x h0 h1)).mono ?_
  rintro e w2 ⟨rfl, hC⟩
  go_wp2
  go_ret3
  exact ⟨rfl, hC⟩

set_option maxHeartbeats 800000 in
theorem fixed32_any (g : Nat) (v : Value) (x : Int) (rest : List Int) (w : World) (h : RdV w g v (fx x 4 ++ rest)) (h0 : 0 ≤ x) (h1 : x < 18446744073709551616) :
    Calls Ybaf.prog 23 #[v] w fun e w' => e = .returned (.tuple #[.int .u32 (x % 4294967296), .int .i64 4, .nilIface]) ∧ Chg No w w' := by
  obtain ⟨off, c, rfl, hc⟩ := h.fix (by decide)
  go_enter Ybaf.func23, Ybaf.ntmps23
  go_wp2_with fail
  refine (cfixed_any _ _ _ 4 w (by omega)).mono ?_
  rintro e w1 ⟨rfl, rfl⟩
  go_wp2_with fail
  refine (le32_core g off _ c (fun j => x / 2 ^ (8 * j) % 256) _ (by omega) hc (b255 x) (x % 4294967296) (by rw [sum4 _ (b255 x)]; exact split32 x h0 h1)).mono ?_
  rintro e w2 ⟨rfl, hC⟩
  go_wp2
  go_ret3
  exact ⟨rfl, hC⟩

end Go.Proofs.YbulkcbpgFmt
