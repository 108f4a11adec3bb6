/-
  Seat b3893aF: wiregen.ConsumeVarint, where a varint stands.
-/
import Derived.Test.YbulkcbpgFmtScript
import Derived.BigQuiet
namespace Go.Proofs.YbulkcbpgFmt
open Go.RowKit Go.Deep
set_option linter.unusedVariables false

/-- The bytes L are read through v, out of block g. -/
def RdV (w : World) (g : Nat) (v : Value) (L : List Int) : Prop :=
  ∃ a c off, v = .slice a L.length c ∧ L.length ≤ c ∧ (0 < L.length → a = some ⟨g, off, none⟩) ∧ ∀ j (hj : j < L.length), w.cell? ⟨g, off + j, none⟩ = some (.int .u8 L[j])

theorem RdV.chg {w w' : World} {g : Nat} {v : Value} {L : List Int} {F : Nat → Prop} (h : RdV w g v L) (hc : Chg F w w') (hF : ¬ F g) : RdV w' g v L := by
  obtain ⟨a, c, off, hv, hl, ha, hcell⟩ := h
  refine ⟨a, c, off, hv, hl, ha, fun j hj => ?_⟩
  have := hcell j hj
  rw [hc.cell (World.block_lt_of_cell? _ _ this) hF]; exact this

set_option maxRecDepth 10000 in
theorem and127 (y : Int) (h0 : 0 ≤ y) (h1 : y < 256) : bits .and .u8 y 127 = y % 128 := by
  obtain ⟨n, rfl⟩ := Int.eq_ofNat_of_zero_le h0
  rw [show (127 : Int) = ((127 : Nat) : Int) from rfl, u8_and_nat n 127 (by omega) (by omega)]
  have key : ∀ n, n < 256 → (n &&& 127) = n % 128 := by decide
  rw [key n (by omega)]
  omega

theorem or_hi (a b : Nat) (k : Nat) (ha : a < 2 ^ k) (hb : 2 ^ k * b < 18446744073709551616) (ha2 : a < 18446744073709551616) : bits .or .u64 (a : Int) ((2 ^ k * b : Nat) : Int) = ((a + 2 ^ k * b : Nat) : Int) := by
  rw [u64_or_nat a (2 ^ k * b) ha2 hb, Nat.or_comm, ← Nat.two_pow_add_eq_or_of_lt ha b, Nat.add_comm]

/-- One byte more of a varint's value. -/
theorem acc_or (x y : Int) (k : Nat) (h0 : 0 ≤ x) (h1 : x < 18446744073709551616) (hy0 : 0 ≤ y) (hy1 : y ≤ 255) (hy : y % 128 = x / 2 ^ (7 * k) % 128) :
    bits .or .u64 (x % 2 ^ (7 * k)) (IntKind.u64.wrap (IntKind.u64.wrap (bits .and .u8 y 127) * 2 ^ (7 * k))) = x % 2 ^ (7 * (k + 1)) := by
  obtain ⟨X, rfl⟩ := Int.eq_ofNat_of_zero_le h0
  have hX : X < 18446744073709551616 := by omega
  rw [and127 y hy0 (by omega), hy]
  have e1 : ((X : Int) / 2 ^ (7 * k) % 128) = ((X / 2 ^ (7 * k) % 128 : Nat) : Int) := by
    rw [Int.natCast_emod, Int.natCast_ediv, Int.natCast_pow]; rfl
  have e2 : ((X : Int) % 2 ^ (7 * k)) = ((X % 2 ^ (7 * k) : Nat) : Int) := by
    rw [Int.natCast_emod, Int.natCast_pow]; rfl
  have e3 : ((X : Int) % 2 ^ (7 * (k + 1))) = ((X % 2 ^ (7 * (k + 1)) : Nat) : Int) := by
    rw [Int.natCast_emod, Int.natCast_pow]; rfl
  have hp : 0 < 2 ^ (7 * k) := Nat.two_pow_pos _
  have hb : 2 ^ (7 * k) * (X / 2 ^ (7 * k) % 128) ≤ X := Nat.le_trans (Nat.mul_le_mul_left _ (Nat.mod_le _ _)) (Nat.mul_div_le _ _)
  have hm : X % 2 ^ (7 * k) ≤ X := Nat.mod_le _ _
  have hl : X % 2 ^ (7 * k) < 2 ^ (7 * k) := Nat.mod_lt _ hp
  have hs : X % 2 ^ (7 * (k + 1)) = X % 2 ^ (7 * k) + 2 ^ (7 * k) * (X / 2 ^ (7 * k) % 128) := by
    rw [show 7 * (k + 1) = 7 * k + 7 by omega, Nat.pow_add, Nat.mod_mul]
  rw [e1, e2, e3, hs]
  generalize hB : X / 2 ^ (7 * k) % 128 = b at *
  have hb128 : b < 128 := by rw [← hB]; exact Nat.mod_lt _ (by omega)
  have ew : IntKind.u64.wrap (b : Int) = (b : Int) := by rw [IntKind.wrap_u64]; omega
  rw [ew]
  have em : (b : Int) * 2 ^ (7 * k) = ((2 ^ (7 * k) * b : Nat) : Int) := by
    rw [Int.mul_comm, Int.natCast_mul, Int.natCast_pow]; rfl
  rw [em]
  have ew2 : IntKind.u64.wrap ((2 ^ (7 * k) * b : Nat) : Int) = ((2 ^ (7 * k) * b : Nat) : Int) := by rw [IntKind.wrap_u64]; omega
  rw [ew2]
  exact or_hi _ _ _ hl (by omega) (by omega)

theorem vb_at {x z : Int} {P rest : List Int} {f : Nat} (h : vb x = P ++ vbF (f + 1) z) (k : Nat) (hk : P.length = k) (hkl : k < (vb x ++ rest).length) : (vb x ++ rest)[k] = if z < 128 then z else z % 128 + 128 := by
  subst hk
  have e : (vb x ++ rest)[P.length]? = some (if z < 128 then z else z % 128 + 128) := by
    rw [h, List.append_assoc, List.getElem?_append_right (Nat.le_refl _), Nat.sub_self]
    unfold vbF
    split <;> rfl
  rw [List.getElem?_eq_getElem hkl] at e
  exact Option.some.inj e

theorem low_bits {x z : Int} {k : Nat} (hz : z = x / 2 ^ (7 * k)) (h0 : 0 ≤ x) (hlt : z < 128) : x % 2 ^ (7 * (k + 1)) = x := by
  subst hz
  obtain ⟨X, rfl⟩ := Int.eq_ofNat_of_zero_le h0
  have hp : 0 < 2 ^ (7 * k) := Nat.two_pow_pos _
  have e1 : ((X : Int) / 2 ^ (7 * k)) = ((X / 2 ^ (7 * k) : Nat) : Int) := by
    rw [Int.natCast_ediv, Int.natCast_pow]; rfl
  rw [e1] at hlt
  have hX : X < 2 ^ (7 * (k + 1)) := by
    rw [show 7 * (k + 1) = 7 + 7 * k by omega, Nat.pow_add]
    exact (Nat.div_lt_iff_lt_mul hp).1 (by omega)
  have e3 : ((X : Int) % 2 ^ (7 * (k + 1))) = ((X % 2 ^ (7 * (k + 1)) : Nat) : Int) := by
    rw [Int.natCast_emod, Int.natCast_pow]; rfl
  rw [e3, Nat.mod_eq_of_lt hX]

theorem next_div (x : Int) (k : Nat) : x / 2 ^ (7 * k) / 128 = x / 2 ^ (7 * (k + 1)) := by
  rw [Int.ediv_ediv_of_nonneg (Int.le_of_lt (Int.pow_pos (by decide))), show 7 * (k + 1) = 7 * k + 7 by omega, Int.pow_add]; rfl

set_option maxHeartbeats 800000 in
theorem cvarint_any (g : Nat) (v : Value) (x : Int) (rest : List Int) (w : World) (h : RdV w g v (vb x ++ rest)) (h0 : 0 ≤ x) (h1 : x < 18446744073709551616) (hl : (vb x ++ rest).length ≤ 1099511627776) :
    Calls Ybaf.prog 30 #[v] w fun e w' => e = .returned (.tuple #[.int .u64 x, .int .i64 (vb x).length, .nilIface]) ∧ w' = w := by
  obtain ⟨a, c, off, rfl, hlc, ha, hcell⟩ := h
  go_enter Ybaf.func30, Ybaf.ntmps30
  go_wp2_with fail
  go_loopg [5, 6] 10 (fun gh acc t wr => wr = w ∧ ∃ (k : Nat) (P : List Int) (f : Nat) (z : Int), k ≤ 10 ∧ gh = 10 - k ∧ t = .int .i64 k ∧ acc = .int .u64 (x % 2 ^ (7 * k)) ∧ P.length = k ∧ k + f = 10 ∧ 1 ≤ f ∧ vb x = P ++ vbF f z ∧ z = x / 2 ^ (7 * k) ∧ 0 ≤ z ∧ z < 128 ^ f)
  case atStart => exact ⟨rfl, 0, [], 10, x, by omega, rfl, rfl, by simp, rfl, rfl, by omega, rfl, by simp, h0, by omega⟩
  case round =>
    obtain ⟨rfl, k, P, f, z, hk, rfl, rfl, rfl, hP, hkf, hf1, hvb, hz, hz0, hzf⟩ := hrel
    obtain ⟨f, rfl⟩ : ∃ f', f = f' + 1 := ⟨f - 1, by omega⟩
    have hk10 : (k : Int) < 10 := by omega
    have hkl : k < (vb x ++ rest).length := by
      rw [List.length_append, hvb, List.length_append, hP]
      unfold vbF
      split <;> simp <;> omega
    obtain rfl := ha (by omega)
    have hcb := hcell k hkl
    have hyv := vb_at (rest := rest) hvb k hP hkl
    have hne : ((k : Int) == ((vb x ++ rest).length : Int)) = false := by simp only [beq_eq_false_iff_ne]; omega
    have hltz : (k : Int) < ((vb x ++ rest).length : Int) := by omega
    generalize (vb x ++ rest)[k] = y at *
    have hy0 : 0 ≤ y := by rw [hyv]; split <;> omega
    have hy1 : y ≤ 255 := by rw [hyv]; split <;> omega
    have hyz : y % 128 = z % 128 := by rw [hyv]; split <;> omega
    have hyl : y < 128 → z < 128 := by rw [hyv]; split <;> omega
    have hyg : 128 ≤ y → 128 ≤ z := by rw [hyv]; split <;> omega
    have hor : bits .or .u64 (x % 2 ^ (7 * k)) (IntKind.u64.wrap (IntKind.u64.wrap (bits .and .u8 y 127) * 2 ^ (7 * k))) = x % 2 ^ (7 * (k + 1)) := acc_or x y k h0 h1 hy0 hy1 (by rw [hyz, hz])
    have HO : Hid (bits .or .u64 (x % 2 ^ (7 * k)) (IntKind.u64.wrap (IntKind.u64.wrap (bits .and .u8 y 127) * 2 ^ (7 * k))) = x % 2 ^ (7 * (k + 1))) := hor
    have HH : Hid (P.length = k ∧ k + (f + 1) = 10 ∧ vb x = P ++ vbF (f + 1) z ∧ z = x / 2 ^ (7 * k)) := ⟨hP, hkf, hvb, hz⟩
    have HY : Hid ((y < 128 → z < 128) ∧ (128 ≤ y → 128 ≤ z)) := ⟨hyl, hyg⟩
    clear hP hkf hvb hz hcell ha hyv hyz hor hyl hyg
    generalize (vb x ++ rest).length = n at *
    go_wp2
    · have hz128 : z < 128 := HY.out.1 ‹_›
      obtain ⟨hP, hkf, hvb, hz⟩ := HH.out
      go_ret3
      refine ⟨?_, rfl⟩
      rw [HO.out, low_bits hz h0 hz128, hvb]
      unfold vbF
      rw [if_pos hz128]
      simp [hP]
    · have hz128 : 128 ≤ z := HY.out.2 ‹_›
      obtain ⟨hP, hkf, hvb, hz⟩ := HH.out
      have hf2 : 1 ≤ f := by
        rcases Nat.eq_zero_or_pos f with e | e
        · subst e; simp at hzf; omega
        · exact e
      go_roundg (10 - (k + 1))
      case measure => omega
      case rel =>
        refine ⟨rfl, k + 1, P ++ [z % 128 + 128], f, z / 128, by omega, rfl, by go_num, by rw [HO.out], by simp [hP], by omega, hf2, ?_, by rw [hz]; exact next_div x k, by omega, ?_⟩
        · rw [hvb]
          show P ++ (if z < 128 then [z] else (z % 128 + 128) :: vbF f (z / 128)) = _
          rw [if_neg (by omega)]; simp
        · rw [Int.pow_succ] at hzf; omega

end Go.Proofs.YbulkcbpgFmt
