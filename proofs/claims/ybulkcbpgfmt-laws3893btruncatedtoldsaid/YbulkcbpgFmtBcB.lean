/-
  Seat b3893aF: zzs3893bbuild, one case of a round.
-/
import Derived.Test.YbulkcbpgFmtBfr
namespace Go.Proofs.YbulkcbpgFmt
open Go.RowKit Go.Deep
set_option linter.unusedVariables false

set_option maxHeartbeats 4000000 in
set_option maxRecDepth 100000 in
theorem bc_B (wI w wr : World) (x : SOp) (n0 d q k kk b0 off0 c0 : Nat) (N1 : Nat → List Value) (U U1 : Nat → Value) (L1 : List Int) (av : Option Addr) (cv bv offv : Nat) (ab : Option Addr) (cb : Nat) (f : Nat → Value) (K : Act → World → Prop)
    (hE : 7 ≤ kk ∧ kk < 14) (hd : d ≤ 3) (hn : n0 ≤ 1024) (hltz : (k : Int) < (n0 : Int)) (hwI : wI.heap.size ≤ w.heap.size) (hI : Chg No wI w) (hfr : ∀ k, Foot q U k → wI.heap.size ≤ k) (hIr : Chg No wI wr) (hfr1 : ∀ k, Foot q U1 k → wI.heap.size ≤ k)
    (g1 : wr.cell? ⟨b0, off0 + k * 3, none⟩ = some (.int .u8 x.o)) (g2 : wr.cell? ⟨b0, off0 + k * 3 + 1, none⟩ = some (.int .u64 x.v)) (g3 : wr.cell? ⟨b0, off0 + k * 3 + 2, none⟩ = some (.slice av x.vals.length cv))
    (hlcv : x.vals.length ≤ cv) (hokx : okOp x) (hL : L1.length ≤ 10547200) (HN2 : Hid (∀ i, (N1 i).length ≤ 10549248)) (HXV : Hid (0 < x.vals.length → av = some ⟨bv, offv, none⟩)) (HCV : Hid (∀ j, j < x.vals.length → wI.cell? ⟨bv, offv + j, none⟩ = (x.vals.map (Value.int .u64))[j]?))
    (hx : 0 ≤ x.o) (hx1 : x.o ≤ 255) (hkk : x.o % 20 = kk) (hk20 : kk < 20) (HXK : Hid (x.k = kk)) (hS : BSt w wr q U U1 N1 (.slice ab L1.length cb) L1)
    (hbz : ((1024 : Int) < (x.vals.length : Int) ∧ x.vs.length = 1024 ∧ av = some ⟨bv, offv, none⟩) ∨ (¬ (1024 : Int) < (x.vals.length : Int) ∧ x.vs.length = x.vals.length))
    (HK : Hid (∀ (tm : Array Value) (t v' : Value) (w' : World), tm.size = 174 → tm.getD 0 undef = .slice (some ⟨b0, off0, none⟩) n0 c0 → tm.getD 1 undef = .int .i64 d → tm.getD 2 undef = .pointer (some ⟨q, 0, none⟩) → tm.getD 19 undef = .slice (some ⟨b0, off0, none⟩) n0 c0 → tm.getD 20 undef = .int .i64 n0 → tm.getD 7 undef = v' → tm.getD 21 undef = t → t = .int .i64 ((k + 1 : Nat) : Int) → (∃ U', BSt w w' q U U' (eff d x N1) v' (L1 ++ chunk d x)) → K ⟨tm, []⟩ w')) :
    Code.wp Ybaf.prog body7 (Exit.then K Never) ⟨#[.slice (some ⟨b0, off0, none⟩) n0 c0, .int .i64 d, .pointer (some ⟨q, 0, none⟩), f 3, f 4, f 5, f 6, .slice ab L1.length cb, f 8, f 9, f 10, f 11, f 12, f 13, f 14, f 15, f 16, f 17, f 18, .slice (some ⟨b0, off0, none⟩) n0 c0, .int .i64 n0, .int .i64 k, f 22, f 23, f 24, f 25, f 26, f 27, f 28, f 29, f 30, f 31, f 32, f 33, f 34, f 35, f 36, f 37, f 38, f 39, f 40, f 41, f 42, f 43, f 44, f 45, f 46, f 47, f 48, f 49, f 50, f 51, f 52, f 53, f 54, f 55, f 56, f 57, f 58, f 59, f 60, f 61, f 62, f 63, f 64, f 65, f 66, f 67, f 68, f 69, f 70, f 71, f 72, f 73, f 74, f 75, f 76, f 77, f 78, f 79, f 80, f 81, f 82, f 83, f 84, f 85, f 86, f 87, f 88, f 89, f 90, f 91, f 92, f 93, f 94, f 95, f 96, f 97, f 98, f 99, f 100, f 101, f 102, f 103, f 104, f 105, f 106, f 107, f 108, f 109, f 110, f 111, f 112, f 113, f 114, f 115, f 116, f 117, f 118, f 119, f 120, f 121, f 122, f 123, f 124, f 125, f 126, f 127, f 128, f 129, f 130, f 131, f 132, f 133, f 134, f 135, f 136, f 137, f 138, f 139, f 140, f 141, f 142, f 143, f 144, f 145, f 146, f 147, f 148, f 149, f 150, f 151, f 152, f 153, f 154, f 155, f 156, f 157, f 158, f 159, f 160, f 161, f 162, f 163, f 164, f 165, f 166, f 167, f 168, f 169, f 170, f 171, f 172, f 173], []⟩ wr := by
  conv => arg 2; whnf
  have hSa := hS.alloc (.cells #[.int .u8 x.o, .int .u64 x.v, .slice av x.vals.length cv] 49)
  have hBx := Box.new hS (.cells #[.int .u8 x.o, .int .u64 x.v, .slice av x.vals.length cv] 49)
  obtain ⟨i, rfl⟩ : ∃ i, kk = i + 7 := ⟨kk - 7, by omega⟩
  have hi7 : i < 7 := by omega
  have HVS : Hid (∀ j, j < x.vs.length → wI.cell? ⟨bv, offv + j, none⟩ = (x.vs.map (Value.int .u64))[j]?) := fun j hj => by
    have := vs_sub x
    rw [HCV.out j (by omega), map_take_get x j hj]
  have HXS : Hid (0 < x.vs.length → av = some ⟨bv, offv, none⟩) := fun h => HXV.out (by have := vs_sub x; omega)
  have hvl := vs_len x
  rcases hbz with ⟨hbz, hvs, rfl⟩ | ⟨hbz, hvs⟩
  · have HN : Hid (x.vs.length = 1024) := hvs
    clear hvs
    go_wp2_with fail
    have hSi0 := BSt.start hSa.msg
    clear g1 g2 g3 hkk
    go_loopg [14, 76] 1024 (fun g r t wx => ∃ j : Nat, j ≤ 1024 ∧ g = 1024 - j ∧ t = .int .i64 j ∧ ∃ U', BSt (wr.alloc (.cells #[.int .u8 x.o, .int .u64 x.v, .slice (some ⟨bv, offv, none⟩) x.vals.length cv] 49)) wx q U1 U' (put N1 i ((x.vs.take j).map (val i))) r (runOf i (x.vs.take j)))
    case atStart => exact ⟨0, Nat.zero_le _, rfl, rfl, U1, by simpa [runOf, put_nil] using hSi0⟩
    case round =>
      clear hSi0
      obtain ⟨j, hj, rfl, rfl, U2, hSi⟩ := hrel
      by_cases hjl : j < 1024
      · have hjlz : (j : Int) < 1024 := by omega
        have hjv : j < x.vs.length := by rw [HN.out]; exact hjl
        have hIx : Chg No wI wr := (hIr.alloc _).trans hSi.chg (fun b hb hF => by have := hfr1 b hF; omega)
        have hcw := HVS.out j hjv
        rw [List.getElem?_map, List.getElem?_eq_getElem hjv] at hcw
        have gj := (hIx.cell (World.block_lt_of_cell? _ _ hcw) (fun hf => hf)).trans hcw
        have HR1 : Hid (runOf i (x.vs.take (j + 1)) = runOf i (x.vs.take j) ++ encV i x.vs[j]) := runOf_step i x.vs j hjv
        have HP1 : Hid (put (put N1 i ((x.vs.take j).map (val i))) i [val i x.vs[j]] = put N1 i ((x.vs.take (j + 1)).map (val i))) := put_step N1 i x.vs (val i) j hjv
        have hyb := hokx.vs x.vs[j] (List.mem_of_mem_take (List.getElem_mem hjv))
        have hlR := runOf_len i (x.vs.take j)
        have hlR2 : (x.vs.take j).length ≤ 1024 := by simp; omega
        have hlR3 : (runOf i (x.vs.take j)).length ≤ 10240 := by omega
        have hlP := put_len N1 i ((x.vs.take j).map (val i)) i
        rw [List.length_map] at hlP
        have hlP2 : (put N1 i ((x.vs.take j).map (val i)) i).length ≤ 10550272 := by have := HN2.out i; omega
        clear hcw hIx hlR hlR2 hlP
        generalize x.vs[j] = y at *
        go_wp2_with fail
        refine (enc_any i hi7 u14 (runOf i (x.vs.take j)) y _ hSi.row hyb.1 hyb.2 (by omega)).mono ?_
        rintro e w5 ⟨r5, rfl, hR5⟩
        have hS5 := hSi.rowTo hR5
        go_wp2_with fail
        refine (put_any i hi7 q _ U2 y _ hS5.msg (by omega)).mono ?_
        rintro e w6 ⟨rfl, hu⟩
        obtain ⟨U6, hS6⟩ := hS5.upd hu
        rw [HP1.out, ← HR1.out] at hS6
        go_wp2_with fail
        go_roundg (1024 - (j + 1))
        case measure => omega
        case rel => exact ⟨j + 1, by omega, rfl, by go_num, U6, hS6⟩
      · have hje : j = 1024 := by omega
        clear hj
        subst hje
        have HTk : Hid (x.vs.take 1024 = x.vs) := by
          show x.vs.take 1024 = x.vs
          exact List.take_of_length_le (Nat.le_of_eq HN.out)
        rw [HTk.out] at hSi
        have hSo := hSa.inner hSi
        have hAp : Apart wr (.slice ab L1.length cb) u14 (runOf i x.vs) := ⟨hSi.row, fun k hk hv => by have := (hSi.fresh k hk).1; have := hSa.row.lt hv; omega⟩
        obtain ⟨ar, cr, rfl⟩ := hSi.row.form
        have hlR := runOf_len i x.vs
        have hlR3 : (runOf i x.vs).length ≤ 10240 := by omega
        have hnb := num_bd i
        have HCh : Hid (chunk d x = vb (num i * 8 + 2) ++ vb (runOf i x.vs).length ++ runOf i x.vs) := chunk_b HXK.out hi7
        have HEf : Hid (eff d x N1 = put N1 i (x.vs.map (val i))) := eff_b HXK.out hi7 N1
        clear hSi hSa hS hBx hlR
        generalize runOf i x.vs = R at *
        go_wp2_with fail
        refine (num_any i hi7 _).mono ?_
        rintro e w7 ⟨rfl, rfl⟩
        go_wp2_with fail
        rw [tag_or2 i hi7]
        refine (varint_any _ L1 (num i * 8 + 2) _ hSo.row (by omega) (by omega) (by omega)).mono ?_
        rintro e w8 ⟨v8, rfl, hR8⟩
        have hS8 := hSo.rowTo hR8
        have hA8 := hAp.rowTo hR8
        have hl8 : Hid ((L1 ++ vb (num i * 8 + 2)).length ≤ 10547300) := by
          show _ ≤ _
          have := vb_len (num i * 8 + 2); rw [List.length_append]; omega
        go_wp2_with fail
        refine (varint_any v8 _ (R.length : Int) _ hS8.row (by omega) (by omega) (by have := hl8.out; omega)).mono ?_
        rintro e w9 ⟨v9, rfl, hR9⟩
        have hS9 := hS8.rowTo hR9
        have hA9 := hA8.rowTo hR9
        obtain ⟨n5, HN5⟩ := hidEx ((L1 ++ vb (num i * 8 + 2) ++ vb R.length).length + R.length)
        have hl9 : Hid (n5 ≤ 10557600) := by
          show _ ≤ _
          rw [HN5.out, List.length_append]
          have := hl8.out; have := vb_len (R.length : Int); omega
        go_wp2_with (first
          | (at_builtin; refine wpList_row_append_src rfl _ _ rfl _ _ _ rfl (RowTo.refl hS9.row) _ R rfl hA9.src n5 HN5.out (by have := hl9.out; omega) ?_; intro a10 c10 w10 hR10))
        have hS10 := hS9.rowTo hR10
        exact HK.out _ _ _ _ rfl rfl rfl rfl rfl rfl rfl rfl (by go_num) ⟨U2, by rw [HCh.out, HEf.out, ← List.append_assoc, ← List.append_assoc]; exact hS10⟩
  · have HN : Hid (x.vs.length = x.vals.length) := hvs
    clear hvs
    go_wp2_with fail
    have hSi0 := BSt.start hSa.msg
    clear g1 g2 g3 hkk
    go_loopg [14, 76] x.vals.length (fun g r t wx => ∃ j : Nat, j ≤ x.vals.length ∧ g = x.vals.length - j ∧ t = .int .i64 j ∧ ∃ U', BSt (wr.alloc (.cells #[.int .u8 x.o, .int .u64 x.v, .slice av x.vals.length cv] 49)) wx q U1 U' (put N1 i ((x.vs.take j).map (val i))) r (runOf i (x.vs.take j)))
    case atStart => exact ⟨0, Nat.zero_le _, rfl, rfl, U1, by simpa [runOf, put_nil] using hSi0⟩
    case round =>
      clear hSi0
      obtain ⟨j, hj, rfl, rfl, U2, hSi⟩ := hrel
      by_cases hjl : j < x.vals.length
      · have hjlz : (j : Int) < (x.vals.length : Int) := by omega
        obtain rfl := HXS.out (by rw [HN.out]; omega)
        have hjv : j < x.vs.length := by rw [HN.out]; exact hjl
        have hIx : Chg No wI wr := (hIr.alloc _).trans hSi.chg (fun b hb hF => by have := hfr1 b hF; omega)
        have hcw := HVS.out j hjv
        rw [List.getElem?_map, List.getElem?_eq_getElem hjv] at hcw
        have gj := (hIx.cell (World.block_lt_of_cell? _ _ hcw) (fun hf => hf)).trans hcw
        have HR1 : Hid (runOf i (x.vs.take (j + 1)) = runOf i (x.vs.take j) ++ encV i x.vs[j]) := runOf_step i x.vs j hjv
        have HP1 : Hid (put (put N1 i ((x.vs.take j).map (val i))) i [val i x.vs[j]] = put N1 i ((x.vs.take (j + 1)).map (val i))) := put_step N1 i x.vs (val i) j hjv
        have hyb := hokx.vs x.vs[j] (List.mem_of_mem_take (List.getElem_mem hjv))
        have hlR := runOf_len i (x.vs.take j)
        have hlR2 : (x.vs.take j).length ≤ 1024 := by simp; omega
        have hlR3 : (runOf i (x.vs.take j)).length ≤ 10240 := by omega
        have hlP := put_len N1 i ((x.vs.take j).map (val i)) i
        rw [List.length_map] at hlP
        have hlP2 : (put N1 i ((x.vs.take j).map (val i)) i).length ≤ 10550272 := by have := HN2.out i; omega
        clear hcw hIx hlR hlR2 hlP
        generalize x.vs[j] = y at *
        go_wp2_with fail
        refine (enc_any i hi7 u14 (runOf i (x.vs.take j)) y _ hSi.row hyb.1 hyb.2 (by omega)).mono ?_
        rintro e w5 ⟨r5, rfl, hR5⟩
        have hS5 := hSi.rowTo hR5
        go_wp2_with fail
        refine (put_any i hi7 q _ U2 y _ hS5.msg (by omega)).mono ?_
        rintro e w6 ⟨rfl, hu⟩
        obtain ⟨U6, hS6⟩ := hS5.upd hu
        rw [HP1.out, ← HR1.out] at hS6
        go_wp2_with fail
        go_roundg (x.vals.length - (j + 1))
        case measure => omega
        case rel => exact ⟨j + 1, by omega, rfl, by go_num, U6, hS6⟩
      · have hje : j = x.vals.length := by omega
        clear hj
        subst hje
        have HTk : Hid (x.vs.take x.vals.length = x.vs) := by
          show x.vs.take x.vals.length = x.vs
          exact List.take_of_length_le (Nat.le_of_eq HN.out)
        rw [HTk.out] at hSi
        have hSo := hSa.inner hSi
        have hAp : Apart wr (.slice ab L1.length cb) u14 (runOf i x.vs) := ⟨hSi.row, fun k hk hv => by have := (hSi.fresh k hk).1; have := hSa.row.lt hv; omega⟩
        obtain ⟨ar, cr, rfl⟩ := hSi.row.form
        have hlR := runOf_len i x.vs
        have hlR3 : (runOf i x.vs).length ≤ 10240 := by omega
        have hnb := num_bd i
        have HCh : Hid (chunk d x = vb (num i * 8 + 2) ++ vb (runOf i x.vs).length ++ runOf i x.vs) := chunk_b HXK.out hi7
        have HEf : Hid (eff d x N1 = put N1 i (x.vs.map (val i))) := eff_b HXK.out hi7 N1
        clear hSi hSa hS hBx hlR
        generalize runOf i x.vs = R at *
        go_wp2_with fail
        refine (num_any i hi7 _).mono ?_
        rintro e w7 ⟨rfl, rfl⟩
        go_wp2_with fail
        rw [tag_or2 i hi7]
        refine (varint_any _ L1 (num i * 8 + 2) _ hSo.row (by omega) (by omega) (by omega)).mono ?_
        rintro e w8 ⟨v8, rfl, hR8⟩
        have hS8 := hSo.rowTo hR8
        have hA8 := hAp.rowTo hR8
        have hl8 : Hid ((L1 ++ vb (num i * 8 + 2)).length ≤ 10547300) := by
          show _ ≤ _
          have := vb_len (num i * 8 + 2); rw [List.length_append]; omega
        go_wp2_with fail
        refine (varint_any v8 _ (R.length : Int) _ hS8.row (by omega) (by omega) (by have := hl8.out; omega)).mono ?_
        rintro e w9 ⟨v9, rfl, hR9⟩
        have hS9 := hS8.rowTo hR9
        have hA9 := hA8.rowTo hR9
        obtain ⟨n5, HN5⟩ := hidEx ((L1 ++ vb (num i * 8 + 2) ++ vb R.length).length + R.length)
        have hl9 : Hid (n5 ≤ 10557600) := by
          show _ ≤ _
          rw [HN5.out, List.length_append]
          have := hl8.out; have := vb_len (R.length : Int); omega
        go_wp2_with (first
          | (at_builtin; refine wpList_row_append_src rfl _ _ rfl _ _ _ rfl (RowTo.refl hS9.row) _ R rfl hA9.src n5 HN5.out (by have := hl9.out; omega) ?_; intro a10 c10 w10 hR10))
        have hS10 := hS9.rowTo hR10
        exact HK.out _ _ _ _ rfl rfl rfl rfl rfl rfl rfl rfl (by go_num) ⟨U2, by rw [HCh.out, HEf.out, ← List.append_assoc, ← List.append_assoc]; exact hS10⟩

end Go.Proofs.YbulkcbpgFmt
