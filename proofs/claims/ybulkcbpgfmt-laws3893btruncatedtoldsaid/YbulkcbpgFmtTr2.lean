/-
  Seat b3893aF: LawS3893BTruncated, one of its four ways.
-/
import Derived.Test.YbulkcbpgFmtRdy
namespace Go.Proofs.YbulkcbpgFmt
open Go.RowKit Go.Deep Go.Extern.Stop Go.Stop Go.Extern
set_option linter.unusedVariables false

set_option maxHeartbeats 4000000 in
set_option maxRecDepth 100000 in
theorem trunc_2 {F : Interp} {ae : Addr} {s : ByteArray} (v0 v1 : Value) (ops : List SOp) (ps : List Int) (t k y : Int) (w : World) (hSen : Sen F ae s w) (h0 : OpsAt w v0 ops) (h1 : SrcV w v1 (ps.map (Value.int .u64))) (hok : ∀ x ∈ ops, okOp x) (hs0 : ops.length ≤ 1024) (hs1 : ps.length ≤ 1024)
    (ht0 : 0 ≤ t) (ht1 : t ≤ 255) (ht : t % 4 = 2) (hk0 : 0 ≤ k) (hk1 : k ≤ 255) (hy0 : 0 ≤ y) (hy1 : y < 18446744073709551616) :
    Calls Ybaf.prog 4 #[v0, v1, .int .u8 t, .int .u8 k, .int .u64 y] w fun e w' => e = .returned (.bool true) ∧ Chg No w w' := by
  obtain ⟨a0, c0, b0, off0, e0, _⟩ := id h0
  obtain ⟨a1, c1, b1, off1, e1, _⟩ := h1.form
  rw [List.length_map] at e1
  obtain ⟨kk, hkk⟩ : ∃ kk : Nat, k % 8 = kk := ⟨(k % 8).toNat, by omega⟩
  have hkl : kk < 8 := by omega
  have hpr := prior_any v1 (.slice none 0 0) ps [] w h1 (.inl ⟨rfl, rfl⟩) hs1 (by simp)
  have hbd := fun N U w1 hm hN hI hf => build_any w v0 ops 2 (w.heap.size + 1) N U w1 h0 hok hs0 (by omega) hm hN hI hf
  have z0 : ¬ (1024 : Int) < (ops.length : Int) := by omega
  have z1 : ¬ (1024 : Int) < (ps.length : Int) := by omega
  have hcl := chunks_len 2 ops
  have hcl2 : (chunks 2 ops).length ≤ 10547200 := by omega
  clear hcl
  subst e0 e1
  go_enter Ybaf.func4, Ybaf.ntmps4
  go_wp2_with fail
  refine hpr.mono ?_
  rintro e w1 ⟨rfl, V, U, hT⟩
  go_wp2_with fail
  refine (hbd _ U _ hT.snd (prior_len ps [] hs1 (by simp)) hT.chg hT.freshQ).mono ?_
  rintro e w2 ⟨v', rfl, U', hB⟩
  clear hpr hbd h0 h1
  generalize hpm : priorM ps [] = M at *
  have HPM : Hid (priorM ps [] = M) := hpm
  clear hpm
  obtain ⟨n5, Hn5⟩ := hidEx ((chunks 2 ops).length + 1)
  have hbn5 : Hid (n5 ≤ 10547900) := by
    show _ ≤ _
    rw [Hn5.out]
    omega
  go_wp2_with (first
    | (at_builtin; refine wpList_row_append rfl _ _ rfl _ _ _ rfl ((RowTo.refl hB.row).alloc _) ⟨w2.heap.size, 0, none⟩ 1 1 [34] rfl rfl (one_cell rfl) (by decide) n5 Hn5.out (by have := hbn5.out; omega) ?_; intro g3 cap3 w3 hR3))
  have hB3 := hB.rowTo hR3
  clear hB hR3 Hn5 hbn5
  go_wp2_with fail
  refine (varint_any _ (chunks 2 ops ++ [34]) ((kk : Int) + 1) _ hB3.row (by omega) (by omega) (by simp only [List.length_append, List.length_singleton]; omega)).mono ?_
  rintro e w4 ⟨v4, rfl, hR4⟩
  have hB6 := hB3.rowTo hR4
  have hvl := vb_len ((kk : Int) + 1)
  clear hB3 hR4
  go_wp2_with fail
  go_loopg [13, 16] kk (fun gh b t wx => ∃ j : Nat, j ≤ kk ∧ gh = kk - j ∧ t = .int .i64 j ∧ BSt w1 wx (w.heap.size + 1) U U' (effs 2 ops M) b (chunks 2 ops ++ [34] ++ vb ((kk : Int) + 1) ++ List.replicate j 0))
  case atStart => exact ⟨0, Nat.zero_le _, rfl, rfl, by simpa using hB6⟩
  case round =>
    clear hB6
    obtain ⟨j, hj, rfl, rfl, hB4⟩ := hrel
    by_cases hjl : j < kk
    · have hjlz : (j : Int) < (kk : Int) := by omega
      obtain ⟨n6, Hn6⟩ := hidEx ((chunks 2 ops ++ [34] ++ vb ((kk : Int) + 1) ++ List.replicate j 0).length + 1)
      have hbn6 : Hid (n6 ≤ 10547900) := by
        show _ ≤ _
        rw [Hn6.out]
        simp only [List.length_append, List.length_replicate, List.length_singleton]; omega
      go_wp2_with (first
        | (at_builtin; refine wpList_row_append rfl _ _ rfl _ _ _ rfl ((RowTo.refl hB4.row).alloc _) ⟨wr.heap.size, 0, none⟩ 1 1 [0] rfl rfl (one_cell rfl) (by decide) n6 Hn6.out (by have := hbn6.out; omega) ?_; intro g5 cap5 w5 hR5))
      have hB5 := hB4.rowTo hR5
      go_roundg (kk - (j + 1))
      case measure => omega
      case rel => exact ⟨j + 1, by omega, rfl, by go_num, by rw [List.replicate_succ', ← List.append_assoc]; exact hB5⟩
    · have hje : j = kk := by omega
      clear hj hjl
      subst hje
      have hjlz : ¬ (j : Int) < (j : Int) := by omega
      have eqT : chunks 2 ops ++ [34] ++ vb ((j : Int) + 1) ++ List.replicate j 0 = chunks 2 ops ++ (vb 34 ++ (vb ((j + 1 : Nat) : Int) ++ List.replicate j 0)) := by
        rw [show vb 34 = [34] from by decide, Int.natCast_add]
        simp only [List.append_assoc]
        rfl
      have HEQ : Hid (chunks 2 ops ++ [34] ++ vb ((j : Int) + 1) ++ List.replicate j 0 = chunks 2 ops ++ (vb 34 ++ (vb ((j + 1 : Nat) : Int) ++ List.replicate j 0))) := eqT
      clear eqT
      have hvl2 := vb_len ((j + 1 : Nat) : Int)
      obtain ⟨g, hrd, hg1, hg2, hm2, hSe, hf0, hfa, hfin⟩ := ready hSen hT hB4
      rw [HEQ.out] at hrd
      go_wp2_with fail
      refine (merge_cut _ _ g 2 _ ops M V (vb 34 ++ (vb ((j + 1 : Nat) : Int) ++ List.replicate j 0)) [] (.row (j + 1) _ (by rw [List.length_replicate]; omega) (by omega)) (by rw [List.length_append, List.length_append, List.length_replicate, show (vb 34).length = 1 from by decide]; omega) hSe hf0 hfa hm2 hrd hg1 hg2 hok hs0 (by omega) (by rw [← HPM.out]; exact prior_len ps [] hs1 (by simp))).mono ?_
      rintro e w8 ⟨u, rfl, ⟨pb, rfl, hp⟩, V', hm3, hc3⟩
      obtain ⟨hq3, hch⟩ := hfin w8 hc3
      rw [put_none] at hm3
      have hv8 := (hSen.no hch).var
      have hfit : AllFit (effs 2 ops M) := by rw [← HPM.out]; exact effs_fits 2 ops (prior_fits ps [])
      have hl3 : ∀ i, (effs 2 ops M i).length ≤ 1099511627776 := fun i => by rw [← HPM.out]; have := effs_len 2 ops (priorM ps []) i; have := prior_len ps [] hs1 (by simp) i; omega
      clear hrd hfin hm2 hc3 hB4
      go_wp2_with fail
      refine (is_wrap_same pb 0 ae w8 hp).mono ?_
      rintro e w9 ⟨rfl, rfl⟩
      go_wp2_with fail
      refine (eq_any w.heap.size (w.heap.size + 1) _ V' _ _ hm3 hq3 hfit hl3).mono ?_
      rintro e w10 ⟨rfl, k4, rfl⟩
      go_wp2_with fail
      go_ret
      exact ⟨rfl, hch.drewN k4⟩

end Go.Proofs.YbulkcbpgFmt
