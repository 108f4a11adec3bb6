/-
  Seat b3893aF: LawS3893BTruncated, one of its four ways.
-/
import Derived.Test.YbulkcbpgFmtRdy
namespace Go.Proofs.YbulkcbpgFmt
open Go.RowKit Go.Deep Go.Extern.Stop Go.Stop Go.Extern
set_option linter.unusedVariables false

set_option maxHeartbeats 4000000 in
set_option maxRecDepth 100000 in
theorem trunc_3 {F : Interp} {ae : Addr} {s : ByteArray} (v0 v1 : Value) (ops : List SOp) (ps : List Int) (t k y : Int) (w : World) (hSen : Sen F ae s w) (h0 : OpsAt w v0 ops) (h1 : SrcV w v1 (ps.map (Value.int .u64))) (hok : ∀ x ∈ ops, okOp x) (hs0 : ops.length ≤ 1024) (hs1 : ps.length ≤ 1024)
    (ht0 : 0 ≤ t) (ht1 : t ≤ 255) (ht : t % 4 = 3) (hk0 : 0 ≤ k) (hk1 : k ≤ 255) (hy0 : 0 ≤ y) (hy1 : y < 18446744073709551616) :
    Calls Ybaf.prog 4 #[v0, v1, .int .u8 t, .int .u8 k, .int .u64 y] w fun e w' => e = .returned (.bool true) ∧ Chg No w w' := by
  obtain ⟨a0, c0, b0, off0, e0, _⟩ := id h0
  obtain ⟨a1, c1, b1, off1, e1, _⟩ := h1.form
  rw [List.length_map] at e1
  obtain ⟨kk, hkk⟩ : ∃ kk : Nat, k % 7 = kk := ⟨(k % 7).toNat, by omega⟩
  have hkl : kk < 7 := by omega
  have hpr := prior_any v1 (.slice none 0 0) ps [] w h1 (.inl ⟨rfl, rfl⟩) hs1 (by simp)
  have hbd := fun N U w1 hm hN hI hf => build_any w v0 ops 2 (w.heap.size + 1) N U w1 h0 hok hs0 (by omega) hm hN hI hf
  have z0 : ¬ (1024 : Int) < (ops.length : Int) := by omega
  have z1 : ¬ (1024 : Int) < (ps.length : Int) := by omega
  have hcl := chunks_len 2 ops
  have hcl2 : (chunks 2 ops).length ≤ 10547200 := by omega
  clear hcl
  subst e0 e1
  go_enter Ybaf.func4, Ybaf.ntmps4
  go_wp2_with fail
  refine hpr.mono ?_
  rintro e w1 ⟨rfl, V, U, hT⟩
  go_wp2_with fail
  refine (hbd _ U _ hT.snd (prior_len ps [] hs1 (by simp)) hT.chg hT.freshQ).mono ?_
  rintro e w2 ⟨v', rfl, U', hB⟩
  clear hpr hbd h0 h1
  generalize hpm : priorM ps [] = M at *
  have HPM : Hid (priorM ps [] = M) := hpm
  clear hpm
  go_wp2_with fail
  have hSi0 := BSt.start hB.msg
  refine (fix64_any _ [] y _ hSi0.row hy0 hy1 (by simp)).mono ?_
  rintro e w3 ⟨v3, rfl, hR3⟩
  have hSi := hSi0.rowTo hR3
  clear hSi0 hR3
  go_wp2_with fail
  go_loopg [17, 18] (kk + 1) (fun gh b t wx => ∃ j : Nat, j ≤ kk + 1 ∧ gh = kk + 1 - j ∧ t = .int .i64 j ∧ BSt w2 wx (w.heap.size + 1) U' U' (effs 2 ops M) b (fx y 8 ++ List.replicate j 0))
  case atStart => exact ⟨0, Nat.zero_le _, rfl, rfl, by simpa using hSi⟩
  case round =>
    clear hSi
    obtain ⟨j, hj, rfl, rfl, hB4⟩ := hrel
    by_cases hjl : j < kk + 1
    · have hjlz : (j : Int) < (kk : Int) + 1 := by omega
      obtain ⟨n6, Hn6⟩ := hidEx ((fx y 8 ++ List.replicate j 0).length + 1)
      have hbn6 : Hid (n6 ≤ 10547900) := by
        show _ ≤ _
        rw [Hn6.out]
        simp only [List.length_append, List.length_replicate, fx_len]; omega
      go_wp2_with (first
        | (at_builtin; refine wpList_row_append rfl _ _ rfl _ _ _ rfl ((RowTo.refl hB4.row).alloc _) ⟨wr.heap.size, 0, none⟩ 1 1 [0] rfl rfl (one_cell rfl) (by decide) n6 Hn6.out (by have := hbn6.out; omega) ?_; intro g5 cap5 w5 hR5))
      have hB5 := hB4.rowTo hR5
      go_roundg (kk + 1 - (j + 1))
      case measure => omega
      case rel => exact ⟨j + 1, by omega, rfl, by go_num, by rw [List.replicate_succ', ← List.append_assoc]; exact hB5⟩
    · have hjlz : ¬ (j : Int) < (kk : Int) + 1 := by omega
      have hj0 : 0 < j := by omega
      have hj8 : j < 8 := by omega
      clear hj hjl
      have hSo := hB.inner hB4
      have hAp : Apart wr v' u17 (fx y 8 ++ List.replicate j 0) := ⟨hB4.row, fun k hk hv => by have := (hB4.fresh k hk).1; have := hB.row.lt hv; omega⟩
      have hRl : (fx y 8 ++ List.replicate j 0).length = 8 + j := by rw [List.length_append, fx_len, List.length_replicate]
      have HRl : Hid ((fx y 8 ++ List.replicate j 0).length = 8 + j) := hRl
      obtain ⟨ar, cr, rfl⟩ := hB4.row.form
      rw [hRl] at hAp ⊢
      clear hB4 hB hRl
      obtain ⟨n7, Hn7⟩ := hidEx ((chunks 2 ops).length + 1)
      have hbn7 : Hid (n7 ≤ 10547900) := by
        show _ ≤ _
        rw [Hn7.out]
        omega
      go_wp2_with (first
        | (at_builtin; refine wpList_row_append rfl _ _ rfl _ _ _ rfl ((RowTo.refl hSo.row).alloc _) ⟨wr.heap.size, 0, none⟩ 1 1 [34] rfl rfl (one_cell rfl) (by decide) n7 Hn7.out (by have := hbn7.out; omega) ?_; intro g6 cap6 w6 hR6))
      have hS6 := hSo.rowTo hR6
      have hA6 := hAp.rowTo hR6
      clear hSo hAp hR6
      go_wp2_with fail
      refine (varint_any _ (chunks 2 ops ++ [34]) (8 + (j : Int)) _ hS6.row (by omega) (by omega) (by simp only [List.length_append, List.length_singleton]; omega)).mono ?_
      rintro e w7 ⟨v7, rfl, hR7⟩
      have hS7 := hS6.rowTo hR7
      have hA7 := hA6.rowTo hR7
      have hvl := vb_len (8 + (j : Int))
      clear hS6 hA6 hR7
      obtain ⟨n8, HN8⟩ := hidEx ((chunks 2 ops ++ [34] ++ vb (8 + (j : Int))).length + (fx y 8 ++ List.replicate j 0).length)
      have hb8 : Hid (n8 ≤ 10547900) := by
        show _ ≤ _
        rw [HN8.out, HRl.out]
        simp only [List.length_append, List.length_singleton]; omega
      obtain ⟨m6, HM6⟩ := hidEx ((effs 2 ops M 3).length + 1)
      have hm6 : Hid (m6 ≤ 10557600) := by
        show _ ≤ _
        rw [HM6.out, ← HPM.out]
        have := effs_len 2 ops (priorM ps []) 3
        have := prior_len ps [] hs1 (by simp) 3
        omega
      go_wp2_with (first
        | (at_builtin; refine wpList_msg_append rfl 3 (by decide) _ _ rfl hS10.msg ((Chg.refl _ _).alloc _) rfl ⟨w10.heap.size, 0, none⟩ 1 1 [val 3 y] rfl rfl (one_cell rfl) (one_one rfl) (by decide) m6 HM6.out (by have := hm6.out; omega) ?_; intro g1 cap w11 hA; have hc11 := hA.cell; have hf11 := hA.frozen)
        | (at_builtin; refine wpList_row_append_src rfl _ _ rfl _ _ _ rfl (RowTo.refl hS7.row) _ (fx y 8 ++ List.replicate j 0) rfl hA7.src n8 HN8.out (by have := hb8.out; omega) ?_; intro a10 c10 w10 hR10; have hS10 := hS7.rowTo hR10; have hcj := hS10.msg.blk.cell (i := 3) (by omega); have hca := fun o => hS10.msg.cell_alloc (i := 3) (by omega) o))
      obtain ⟨U8, hS11⟩ := hS10.upd hA.upd
      have HEQ : Hid (chunks 2 ops ++ [34] ++ vb (8 + (j : Int)) ++ (fx y 8 ++ List.replicate j 0) = chunks 2 ops ++ (vb 34 ++ (vb ((fx y 8 ++ List.replicate j 0).length : Int) ++ ((fx y 8 ++ List.replicate j 0) ++ [])))) := by
        show _ = _
        rw [show vb 34 = [34] from by decide, HRl.out, Int.natCast_add, List.append_nil]
        simp only [List.append_assoc]
        rfl
      have hvl2 := vb_len ((fx y 8 ++ List.replicate j 0).length : Int)
      obtain ⟨g, hrd, hg1, hg2, hm2, hSe, hf0, hfa, hfin⟩ := ready hSen hT hS11
      rw [HEQ.out] at hrd
      go_wp2_with fail
      refine (merge_cut _ _ g 2 _ ops M V (vb 34 ++ (vb ((fx y 8 ++ List.replicate j 0).length : Int) ++ ((fx y 8 ++ List.replicate j 0) ++ []))) [val 3 y] (.run y _ hy0 hy1 (by rw [List.length_replicate]; exact hj0) (by rw [List.length_replicate]; exact hj8)) (by rw [List.length_append, List.length_append, List.append_nil, HRl.out, show (vb 34).length = 1 from by decide]; rw [HRl.out] at hvl2; omega) hSe hf0 hfa hm2 hrd hg1 hg2 hok hs0 (by omega) (by rw [← HPM.out]; exact prior_len ps [] hs1 (by simp))).mono ?_
      rintro e w8 ⟨u, rfl, ⟨pb, rfl, hp⟩, V', hm3, hc3⟩
      obtain ⟨hq3, hch⟩ := hfin w8 hc3
      have hv8 := (hSen.no hch).var
      have hfit : AllFit (put (effs 2 ops M) 3 [val 3 y]) := (by rw [← HPM.out]; exact effs_fits 2 ops (prior_fits ps []) : AllFit (effs 2 ops M)).put 3 _ (fun x hx => by rcases List.mem_singleton.1 hx with rfl; exact val_fits 3 y (by omega))
      have hl3 : ∀ i, (put (effs 2 ops M) 3 [val 3 y] i).length ≤ 1099511627776 := fun i => by have := put_len (effs 2 ops M) 3 [val 3 y] i; rw [← HPM.out] at this ⊢; have := effs_len 2 ops (priorM ps []) i; have := prior_len ps [] hs1 (by simp) i; simp only [List.length_singleton] at *; omega
      clear hrd hfin hm2 hc3 hS11
      go_wp2_with fail
      refine (is_wrap_same pb 0 ae w8 hp).mono ?_
      rintro e w9 ⟨rfl, rfl⟩
      go_wp2_with fail
      refine (eq_any w.heap.size (w.heap.size + 1) _ V' _ _ hm3 hq3 hfit hl3).mono ?_
      rintro e w10 ⟨rfl, k4, rfl⟩
      go_wp2_with fail
      go_ret
      exact ⟨rfl, hch.drewN k4⟩

end Go.Proofs.YbulkcbpgFmt
