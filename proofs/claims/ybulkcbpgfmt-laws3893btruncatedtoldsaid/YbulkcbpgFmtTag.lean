/-
  Seat b3893aF: wiregen.ConsumeTag, where a tag stands.
-/
import Derived.Test.YbulkcbpgFmtCon
namespace Go.Proofs.YbulkcbpgFmt
open Go.RowKit Go.Deep
set_option linter.unusedVariables false

theorem vb_short (t : Int) (h0 : 0 ≤ t) (h1 : t < 16384) : (vb t).length ≤ 2 := by
  show (if t < 128 then [t] else (t % 128 + 128) :: (if t / 128 < 128 then [t / 128] else (t / 128 % 128 + 128) :: vbF 8 (t / 128 / 128))).length ≤ 2
  split
  · simp
  · rw [if_pos (by omega)]; simp

theorem and7 (t : Int) (h0 : 0 ≤ t) (h1 : t < 18446744073709551616) : bits .and .u64 t 7 = t % 8 := by
  obtain ⟨n, rfl⟩ := Int.eq_ofNat_of_zero_le h0
  rw [show (7 : Int) = ((7 : Nat) : Int) from rfl, u64_and_nat n 7 (by omega) (by omega)]
  have : n &&& 7 = n % 8 := Nat.and_two_pow_sub_one_eq_mod n 3
  rw [this]; omega

set_option maxHeartbeats 800000 in
theorem ctag_core (a : Option Addr) (n m c : Nat) (t : Int) (k : Nat) (w : World) (h0 : 8 ≤ t) (h1 : t < 16384) (h5 : t % 8 ≤ 5) (hm : ((5 : Int) < (n : Int) ∧ m = 5) ∨ ((n : Int) ≤ 5 ∧ m = n)) (hnc : n ≤ c) (hl : n ≤ 549755813888)
    (hcall : Calls Ybaf.prog 30 #[.slice a m c] w fun e w' => e = .returned (.tuple #[.int .u64 t, .int .i64 k, .nilIface]) ∧ w' = w) :
    Calls Ybaf.prog 18 #[.slice a n c] w fun e w' => e = .returned (.tuple #[.int .i32 (t / 8), .int .i8 (t % 8), .int .i64 k, .nilIface]) ∧ w' = w := by
  have HA := and7 t (by omega) (by omega)
  have h80 : 0 ≤ t % 8 := by omega
  rcases hm with ⟨hm, rfl⟩ | ⟨hm, rfl⟩
  all_goals
    go_enter Ybaf.func18, Ybaf.ntmps18
    go_wp2_with fail
    refine hcall.mono ?_
    rintro e w1 ⟨rfl, rfl⟩
    go_wp2_with fail
    exact bodyPost_ret (v := .tuple #[.int .i32 (t / 8), .int .i8 (t % 8), .int .i64 k, .nilIface]) (by simp [results, Ybaf.results18, go_sem]) rfl ⟨rfl, rfl⟩

theorem ctag_any (g : Nat) (v : Value) (t : Int) (rest : List Int) (w : World) (h : RdV w g v (vb t ++ rest)) (h0 : 8 ≤ t) (h1 : t < 16384) (h5 : t % 8 ≤ 5) (hl : (vb t ++ rest).length ≤ 549755813888) :
    Calls Ybaf.prog 18 #[v] w fun e w' => e = .returned (.tuple #[.int .i32 (t / 8), .int .i8 (t % 8), .int .i64 (vb t).length, .nilIface]) ∧ w' = w := by
  have hs := vb_short t (by omega) h1
  obtain ⟨a, c, off, rfl, hlc, ha, hcell⟩ := h
  have hlen : (vb t ++ rest).length = (vb t).length + rest.length := List.length_append
  by_cases hn : 5 < (vb t ++ rest).length
  · have hl5 : (vb t ++ rest.take (5 - (vb t).length)).length = 5 := by rw [List.length_append, List.length_take]; omega
    refine ctag_core a _ 5 c t _ w h0 h1 h5 (.inl ⟨by omega, rfl⟩) hlc hl (cvarint_any g _ t (rest.take (5 - (vb t).length)) w ⟨a, c, off, by rw [hl5], by omega, fun _ => ha (by omega), fun j hj => ?_⟩ (by omega) (by omega) (by omega))
    rw [hcell j (by omega)]
    congr 2
    have : (vb t ++ rest)[j]? = (vb t ++ rest.take (5 - (vb t).length))[j]? := by
      by_cases hj2 : j < (vb t).length
      · rw [List.getElem?_append_left hj2, List.getElem?_append_left hj2]
      · rw [List.getElem?_append_right (by omega), List.getElem?_append_right (by omega), List.getElem?_take, if_pos (by omega)]
    rw [List.getElem?_eq_getElem (by omega), List.getElem?_eq_getElem hj] at this
    exact Option.some.inj this
  · exact ctag_core a _ _ c t _ w h0 h1 h5 (.inr ⟨by omega, rfl⟩) hlc hl (cvarint_any g _ t rest w ⟨a, c, off, rfl, hlc, ha, hcell⟩ (by omega) (by omega) (by omega))

end Go.Proofs.YbulkcbpgFmt
