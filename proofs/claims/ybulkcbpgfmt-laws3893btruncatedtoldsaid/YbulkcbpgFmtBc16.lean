/-
  Seat b3893aF: zzs3893bbuild, one case of a round.
-/
import Derived.Test.YbulkcbpgFmtBfr
namespace Go.Proofs.YbulkcbpgFmt
open Go.RowKit Go.Deep
set_option linter.unusedVariables false

set_option maxHeartbeats 4000000 in
set_option maxRecDepth 100000 in
theorem bc_16 (wI w wr : World) (x : SOp) (n0 d q k kk b0 off0 c0 : Nat) (N1 : Nat → List Value) (U U1 : Nat → Value) (L1 : List Int) (av : Option Addr) (cv bv offv : Nat) (ab : Option Addr) (cb : Nat) (f : Nat → Value) (K : Act → World → Prop)
    (hE : kk = 16) (hd : d ≤ 3) (hn : n0 ≤ 1024) (hltz : (k : Int) < (n0 : Int)) (hwI : wI.heap.size ≤ w.heap.size) (hI : Chg No wI w) (hfr : ∀ k, Foot q U k → wI.heap.size ≤ k) (hIr : Chg No wI wr) (hfr1 : ∀ k, Foot q U1 k → wI.heap.size ≤ k)
    (g1 : wr.cell? ⟨b0, off0 + k * 3, none⟩ = some (.int .u8 x.o)) (g2 : wr.cell? ⟨b0, off0 + k * 3 + 1, none⟩ = some (.int .u64 x.v)) (g3 : wr.cell? ⟨b0, off0 + k * 3 + 2, none⟩ = some (.slice av x.vals.length cv))
    (hlcv : x.vals.length ≤ cv) (hokx : okOp x) (hL : L1.length ≤ 10547200) (HN2 : Hid (∀ i, (N1 i).length ≤ 10549248)) (HXV : Hid (0 < x.vals.length → av = some ⟨bv, offv, none⟩)) (HCV : Hid (∀ j, j < x.vals.length → wI.cell? ⟨bv, offv + j, none⟩ = (x.vals.map (Value.int .u64))[j]?))
    (hx : 0 ≤ x.o) (hx1 : x.o ≤ 255) (hkk : x.o % 20 = kk) (hk20 : kk < 20) (HXK : Hid (x.k = kk)) (hS : BSt w wr q U U1 N1 (.slice ab L1.length cb) L1)
    (hbz : ((1024 : Int) < (x.vals.length : Int) ∧ x.vs.length = 1024 ∧ av = some ⟨bv, offv, none⟩) ∨ (¬ (1024 : Int) < (x.vals.length : Int) ∧ x.vs.length = x.vals.length))
    (HK : Hid (∀ (tm : Array Value) (t v' : Value) (w' : World), tm.size = 174 → tm.getD 0 undef = .slice (some ⟨b0, off0, none⟩) n0 c0 → tm.getD 1 undef = .int .i64 d → tm.getD 2 undef = .pointer (some ⟨q, 0, none⟩) → tm.getD 19 undef = .slice (some ⟨b0, off0, none⟩) n0 c0 → tm.getD 20 undef = .int .i64 n0 → tm.getD 7 undef = v' → tm.getD 21 undef = t → t = .int .i64 ((k + 1 : Nat) : Int) → (∃ U', BSt w w' q U U' (eff d x N1) v' (L1 ++ chunk d x)) → K ⟨tm, []⟩ w')) :
    Code.wp Ybaf.prog body7 (Exit.then K Never) ⟨#[.slice (some ⟨b0, off0, none⟩) n0 c0, .int .i64 d, .pointer (some ⟨q, 0, none⟩), f 3, f 4, f 5, f 6, .slice ab L1.length cb, f 8, f 9, f 10, f 11, f 12, f 13, f 14, f 15, f 16, f 17, f 18, .slice (some ⟨b0, off0, none⟩) n0 c0, .int .i64 n0, .int .i64 k, f 22, f 23, f 24, f 25, f 26, f 27, f 28, f 29, f 30, f 31, f 32, f 33, f 34, f 35, f 36, f 37, f 38, f 39, f 40, f 41, f 42, f 43, f 44, f 45, f 46, f 47, f 48, f 49, f 50, f 51, f 52, f 53, f 54, f 55, f 56, f 57, f 58, f 59, f 60, f 61, f 62, f 63, f 64, f 65, f 66, f 67, f 68, f 69, f 70, f 71, f 72, f 73, f 74, f 75, f 76, f 77, f 78, f 79, f 80, f 81, f 82, f 83, f 84, f 85, f 86, f 87, f 88, f 89, f 90, f 91, f 92, f 93, f 94, f 95, f 96, f 97, f 98, f 99, f 100, f 101, f 102, f 103, f 104, f 105, f 106, f 107, f 108, f 109, f 110, f 111, f 112, f 113, f 114, f 115, f 116, f 117, f 118, f 119, f 120, f 121, f 122, f 123, f 124, f 125, f 126, f 127, f 128, f 129, f 130, f 131, f 132, f 133, f 134, f 135, f 136, f 137, f 138, f 139, f 140, f 141, f 142, f 143, f 144, f 145, f 146, f 147, f 148, f 149, f 150, f 151, f 152, f 153, f 154, f 155, f 156, f 157, f 158, f 159, f 160, f 161, f 162, f 163, f 164, f 165, f 166, f 167, f 168, f 169, f 170, f 171, f 172, f 173], []⟩ wr := by
  conv => arg 2; whnf
  have hSa := hS.alloc (.cells #[.int .u8 x.o, .int .u64 x.v, .slice av x.vals.length cv] 49)
  have hBx := Box.new hS (.cells #[.int .u8 x.o, .int .u64 x.v, .slice av x.vals.length cv] 49)
  subst hE
  have HVS : Hid (∀ j, j < x.vs.length → wI.cell? ⟨bv, offv + j, none⟩ = (x.vs.map (Value.int .u64))[j]?) := fun j hj => by
    have := vs_sub x
    rw [HCV.out j (by omega), map_take_get x j hj]
  have HXS : Hid (0 < x.vs.length → av = some ⟨bv, offv, none⟩) := fun h => HXV.out (by have := vs_sub x; omega)
  have hvl := vs_len x
  rcases hbz with ⟨hbz, hvs, rfl⟩ | ⟨hbz, hvs⟩
  · have HN : Hid (x.vs.length = 1024) := hvs
    clear hvs
    go_wp2_with fail
    refine (varint_any _ L1 162 _ hSa.row (by omega) (by omega) (by omega)).mono ?_
    rintro e w2 ⟨v2, rfl, hR2⟩
    have hS2 := hSa.rowTo hR2
    go_wp2_with fail
    refine (varint_any v2 _ 1024 _ hS2.row (by omega) (by have := HN.out; omega) (by have := vb_len 162; rw [List.length_append]; omega)).mono ?_
    rintro e w3 ⟨v3, rfl, hR3⟩
    have hS3 := hS2.rowTo hR3
    clear hR2 hR3 hBx hSa hS hS2 g1 g2 g3 hkk
    go_wp2_with fail
    go_loopg [7, 133] 1024 (fun g b t wx => ∃ j : Nat, j ≤ 1024 ∧ g = 1024 - j ∧ t = .int .i64 j ∧ BSt w wx q U U1 N1 b (L1 ++ vb 162 ++ vb 1024 ++ (x.vs.take j).map (· % 256)))
    case atStart => exact ⟨0, Nat.zero_le _, rfl, rfl, by simpa using hS3⟩
    case round =>
      clear hS3
      obtain ⟨j, hj, rfl, rfl, hS4⟩ := hrel
      have hlenM : Hid ((L1 ++ vb 162 ++ vb 1024 ++ (x.vs.take j).map (· % 256)).length ≤ 10548400) := by
        show _ ≤ _
        have a := vb_len 162
        have b := vb_len 1024
        have c := HN.out
        simp only [List.length_append, List.length_map, List.length_take]; omega
      by_cases hjl : j < 1024
      · have hjlz : (j : Int) < 1024 := by omega
        have hjv : j < x.vs.length := by rw [HN.out]; exact hjl
        have hIx : Chg No wI wr := hI.trans hS4.chg (fun b hb hF => by have := hfr b hF; omega)
        have hcw := HVS.out j hjv
        rw [List.getElem?_map, List.getElem?_eq_getElem hjv] at hcw
        have gj := (hIx.cell (World.block_lt_of_cell? _ _ hcw) (fun hf => hf)).trans hcw
        have HSn : Hid ((x.vs.take (j + 1)).map (· % 256) = (x.vs.take j).map (· % 256) ++ [x.vs[j] % 256]) := by
          show (x.vs.take (j + 1)).map (· % 256) = (x.vs.take j).map (· % 256) ++ [x.vs[j] % 256]
          rw [List.take_succ_eq_append_getElem hjv, List.map_append]; rfl
        clear hcw hIx
        generalize x.vs[j] = y at *
        obtain ⟨n5, HN5⟩ := hidEx ((L1 ++ vb 162 ++ vb 1024 ++ (x.vs.take j).map (· % 256)).length + 1)
        go_wp2_with (first
          | (at_builtin; refine wpList_row_append rfl _ _ rfl _ _ _ rfl ((RowTo.refl hS4.row).alloc _) ⟨wr.heap.size, 0, none⟩ 1 1 [y % 256] rfl rfl (one_cell rfl) (by decide) n5 HN5.out (by have := hlenM.out; have := HN5.out; omega) ?_; intro g cap w5 hR5))
        have hS5 := hS4.rowTo hR5
        go_roundg (1024 - (j + 1))
        case measure => omega
        case rel => exact ⟨j + 1, by omega, rfl, by go_num, by rw [HSn.out, ← List.append_assoc]; exact hS5⟩
      · have hje : j = 1024 := by omega
        clear hj
        subst hje
        have HTk : Hid (x.vs.take 1024 = x.vs) := by
          show x.vs.take 1024 = x.vs
          exact List.take_of_length_le (Nat.le_of_eq HN.out)
        rw [HTk.out] at hS4
        go_wp2_with fail
        -- the unknown field is kept: one region that draws
        obtain ⟨g9, c9, rfl⟩ := hS4.row.atHead (by simp only [List.length_append]; have := vb_pos 162; omega)
        have hlen9 : (L1 ++ vb 162 ++ vb 1024 ++ x.vs.map (· % 256)).length = L1.length + (vb 162 ++ (vb 1024 ++ x.vs.map (· % 256))).length := by simp only [List.length_append]; omega
        have hp9 : 0 < (vb 162 ++ (vb 1024 ++ x.vs.map (· % 256))).length := by rw [List.length_append]; have := vb_pos 162; omega
        have hc9 := hS4.msg.blk.cell (i := 7) (by decide)
        rw [hlen9]
        have hrow9 : BRow wr (.slice (some ⟨g9, 0, none⟩) (L1.length + (vb 162 ++ (vb 1024 ++ x.vs.map (· % 256))).length) c9) (L1 ++ (vb 162 ++ (vb 1024 ++ x.vs.map (· % 256)))) := by
          have hLL : L1 ++ vb 162 ++ vb 1024 ++ x.vs.map (· % 256) = L1 ++ (vb 162 ++ (vb 1024 ++ x.vs.map (· % 256))) := by simp only [List.append_assoc]
          have := hS4.row
          rw [hlen9, hLL] at this
          exact this
        have hcap9 := BRow.cap_le hrow9
        have hC9 : Hid (chunk d x = vb 162 ++ (vb 1024 ++ x.vs.map (· % 256))) := by show chunk d x = vb 162 ++ (vb 1024 ++ x.vs.map (· % 256)); unfold chunk; rw [HXK.out]; simp [HN.out]
        have hlC9 : (vb 162 ++ (vb 1024 ++ x.vs.map (· % 256))).length ≤ 10300 := by rw [← hC9.out]; exact chunk_len d x
        have hLL9 : Hid (L1 ++ vb 162 ++ vb 1024 ++ x.vs.map (· % 256) = L1 ++ (vb 162 ++ (vb 1024 ++ x.vs.map (· % 256)))) := by show L1 ++ vb 162 ++ vb 1024 ++ x.vs.map (· % 256) = L1 ++ (vb 162 ++ (vb 1024 ++ x.vs.map (· % 256))); simp only [List.append_assoc]
        generalize hgC : (vb 162 ++ (vb 1024 ++ x.vs.map (· % 256))) = C9 at *
        clear hgC
        have hle9 : (L1.length : Int) ≤ (L1.length : Int) + (C9.length : Int) := by omega
        have hne9 : ¬ c9 = L1.length := by omega
        go_wp2_with fail
        go_region_law (first
          | (refine step_msg_append rfl 7 (by decide) _ _ rfl hS4.msg ((Chg.refl _ _).drew) rfl ⟨g9, L1.length, none⟩ C9.length (c9 - L1.length) (bytes C9) (by simp [Act.eval]) (bytes_length _) (row_from hrow9 _ rfl) (bytes_one _) hp9 ((N1 7).length + C9.length) rfl (by have := HN2.out 7; omega) ?_; intro g cap w9 hA; have hc10 := hA.cell; have hf10 := hA.frozen))
        all_goals
          obtain ⟨U9, hS9⟩ := BSt.upd hS4 hA.upd
          go_wp2_with fail
          exact HK.out _ _ _ _ rfl rfl rfl rfl rfl rfl rfl rfl (by go_num) ⟨U9, by rw [eff_c HXK.out (by omega), hC9.out, ← hLL9.out]; rw [hlen9] at hS9; exact hS9⟩
  · have HN : Hid (x.vs.length = x.vals.length) := hvs
    clear hvs
    go_wp2_with fail
    refine (varint_any _ L1 162 _ hSa.row (by omega) (by omega) (by omega)).mono ?_
    rintro e w2 ⟨v2, rfl, hR2⟩
    have hS2 := hSa.rowTo hR2
    go_wp2_with fail
    refine (varint_any v2 _ (x.vals.length : Int) _ hS2.row (by omega) (by have := HN.out; omega) (by have := vb_len 162; rw [List.length_append]; omega)).mono ?_
    rintro e w3 ⟨v3, rfl, hR3⟩
    have hS3 := hS2.rowTo hR3
    clear hR2 hR3 hBx hSa hS hS2 g1 g2 g3 hkk
    go_wp2_with fail
    go_loopg [7, 133] x.vals.length (fun g b t wx => ∃ j : Nat, j ≤ x.vals.length ∧ g = x.vals.length - j ∧ t = .int .i64 j ∧ BSt w wx q U U1 N1 b (L1 ++ vb 162 ++ vb x.vals.length ++ (x.vs.take j).map (· % 256)))
    case atStart => exact ⟨0, Nat.zero_le _, rfl, rfl, by simpa using hS3⟩
    case round =>
      clear hS3
      obtain ⟨j, hj, rfl, rfl, hS4⟩ := hrel
      have hlenM : Hid ((L1 ++ vb 162 ++ vb x.vals.length ++ (x.vs.take j).map (· % 256)).length ≤ 10548400) := by
        show _ ≤ _
        have a := vb_len 162
        have b := vb_len (x.vals.length : Int)
        have c := HN.out
        simp only [List.length_append, List.length_map, List.length_take]; omega
      by_cases hjl : j < x.vals.length
      · have hjlz : (j : Int) < (x.vals.length : Int) := by omega
        obtain rfl := HXS.out (by rw [HN.out]; omega)
        have hjv : j < x.vs.length := by rw [HN.out]; exact hjl
        have hIx : Chg No wI wr := hI.trans hS4.chg (fun b hb hF => by have := hfr b hF; omega)
        have hcw := HVS.out j hjv
        rw [List.getElem?_map, List.getElem?_eq_getElem hjv] at hcw
        have gj := (hIx.cell (World.block_lt_of_cell? _ _ hcw) (fun hf => hf)).trans hcw
        have HSn : Hid ((x.vs.take (j + 1)).map (· % 256) = (x.vs.take j).map (· % 256) ++ [x.vs[j] % 256]) := by
          show (x.vs.take (j + 1)).map (· % 256) = (x.vs.take j).map (· % 256) ++ [x.vs[j] % 256]
          rw [List.take_succ_eq_append_getElem hjv, List.map_append]; rfl
        clear hcw hIx
        generalize x.vs[j] = y at *
        obtain ⟨n5, HN5⟩ := hidEx ((L1 ++ vb 162 ++ vb x.vals.length ++ (x.vs.take j).map (· % 256)).length + 1)
        go_wp2_with (first
          | (at_builtin; refine wpList_row_append rfl _ _ rfl _ _ _ rfl ((RowTo.refl hS4.row).alloc _) ⟨wr.heap.size, 0, none⟩ 1 1 [y % 256] rfl rfl (one_cell rfl) (by decide) n5 HN5.out (by have := hlenM.out; have := HN5.out; omega) ?_; intro g cap w5 hR5))
        have hS5 := hS4.rowTo hR5
        go_roundg (x.vals.length - (j + 1))
        case measure => omega
        case rel => exact ⟨j + 1, by omega, rfl, by go_num, by rw [HSn.out, ← List.append_assoc]; exact hS5⟩
      · have hje : j = x.vals.length := by omega
        clear hj
        subst hje
        have HTk : Hid (x.vs.take x.vals.length = x.vs) := by
          show x.vs.take x.vals.length = x.vs
          exact List.take_of_length_le (Nat.le_of_eq HN.out)
        rw [HTk.out] at hS4
        go_wp2_with fail
        -- the unknown field is kept: one region that draws
        obtain ⟨g9, c9, rfl⟩ := hS4.row.atHead (by simp only [List.length_append]; have := vb_pos 162; omega)
        have hlen9 : (L1 ++ vb 162 ++ vb x.vals.length ++ x.vs.map (· % 256)).length = L1.length + (vb 162 ++ (vb x.vals.length ++ x.vs.map (· % 256))).length := by simp only [List.length_append]; omega
        have hp9 : 0 < (vb 162 ++ (vb x.vals.length ++ x.vs.map (· % 256))).length := by rw [List.length_append]; have := vb_pos 162; omega
        have hc9 := hS4.msg.blk.cell (i := 7) (by decide)
        rw [hlen9]
        have hrow9 : BRow wr (.slice (some ⟨g9, 0, none⟩) (L1.length + (vb 162 ++ (vb x.vals.length ++ x.vs.map (· % 256))).length) c9) (L1 ++ (vb 162 ++ (vb x.vals.length ++ x.vs.map (· % 256)))) := by
          have hLL : L1 ++ vb 162 ++ vb x.vals.length ++ x.vs.map (· % 256) = L1 ++ (vb 162 ++ (vb x.vals.length ++ x.vs.map (· % 256))) := by simp only [List.append_assoc]
          have := hS4.row
          rw [hlen9, hLL] at this
          exact this
        have hcap9 := BRow.cap_le hrow9
        have hC9 : Hid (chunk d x = vb 162 ++ (vb x.vals.length ++ x.vs.map (· % 256))) := by show chunk d x = vb 162 ++ (vb x.vals.length ++ x.vs.map (· % 256)); unfold chunk; rw [HXK.out]; simp [HN.out]
        have hlC9 : (vb 162 ++ (vb x.vals.length ++ x.vs.map (· % 256))).length ≤ 10300 := by rw [← hC9.out]; exact chunk_len d x
        have hLL9 : Hid (L1 ++ vb 162 ++ vb x.vals.length ++ x.vs.map (· % 256) = L1 ++ (vb 162 ++ (vb x.vals.length ++ x.vs.map (· % 256)))) := by show L1 ++ vb 162 ++ vb x.vals.length ++ x.vs.map (· % 256) = L1 ++ (vb 162 ++ (vb x.vals.length ++ x.vs.map (· % 256))); simp only [List.append_assoc]
        generalize hgC : (vb 162 ++ (vb x.vals.length ++ x.vs.map (· % 256))) = C9 at *
        clear hgC
        have hle9 : (L1.length : Int) ≤ (L1.length : Int) + (C9.length : Int) := by omega
        have hne9 : ¬ c9 = L1.length := by omega
        go_wp2_with fail
        go_region_law (first
          | (refine step_msg_append rfl 7 (by decide) _ _ rfl hS4.msg ((Chg.refl _ _).drew) rfl ⟨g9, L1.length, none⟩ C9.length (c9 - L1.length) (bytes C9) (by simp [Act.eval]) (bytes_length _) (row_from hrow9 _ rfl) (bytes_one _) hp9 ((N1 7).length + C9.length) rfl (by have := HN2.out 7; omega) ?_; intro g cap w9 hA; have hc10 := hA.cell; have hf10 := hA.frozen))
        all_goals
          obtain ⟨U9, hS9⟩ := BSt.upd hS4 hA.upd
          go_wp2_with fail
          exact HK.out _ _ _ _ rfl rfl rfl rfl rfl rfl rfl rfl (by go_num) ⟨U9, by rw [eff_c HXK.out (by omega), hC9.out, ← hLL9.out]; rw [hlen9] at hS9; exact hS9⟩

end Go.Proofs.YbulkcbpgFmt
