/-
  Seat b3893aF: zzs3893bbuild, one case of a round.
-/
import Derived.Test.YbulkcbpgFmtBfr
namespace Go.Proofs.YbulkcbpgFmt
open Go.RowKit Go.Deep
set_option linter.unusedVariables false

set_option maxHeartbeats 4000000 in
set_option maxRecDepth 100000 in
theorem bc_A (wI w wr : World) (x : SOp) (n0 d q k kk b0 off0 c0 : Nat) (N1 : Nat → List Value) (U U1 : Nat → Value) (L1 : List Int) (av : Option Addr) (cv bv offv : Nat) (ab : Option Addr) (cb : Nat) (f : Nat → Value) (K : Act → World → Prop)
    (h7 : kk < 7) (hd : d ≤ 3) (hn : n0 ≤ 1024) (hltz : (k : Int) < (n0 : Int)) (hwI : wI.heap.size ≤ w.heap.size) (hI : Chg No wI w) (hfr : ∀ k, Foot q U k → wI.heap.size ≤ k) (hIr : Chg No wI wr) (hfr1 : ∀ k, Foot q U1 k → wI.heap.size ≤ k)
    (g1 : wr.cell? ⟨b0, off0 + k * 3, none⟩ = some (.int .u8 x.o)) (g2 : wr.cell? ⟨b0, off0 + k * 3 + 1, none⟩ = some (.int .u64 x.v)) (g3 : wr.cell? ⟨b0, off0 + k * 3 + 2, none⟩ = some (.slice av x.vals.length cv))
    (hlcv : x.vals.length ≤ cv) (hokx : okOp x) (hL : L1.length ≤ 10547200) (HN2 : Hid (∀ i, (N1 i).length ≤ 10549248)) (HXV : Hid (0 < x.vals.length → av = some ⟨bv, offv, none⟩)) (HCV : Hid (∀ j, j < x.vals.length → wI.cell? ⟨bv, offv + j, none⟩ = (x.vals.map (Value.int .u64))[j]?))
    (hx : 0 ≤ x.o) (hx1 : x.o ≤ 255) (hkk : x.o % 20 = kk) (hk20 : kk < 20) (HXK : Hid (x.k = kk)) (hS : BSt w wr q U U1 N1 (.slice ab L1.length cb) L1)
    (hbz : ((1024 : Int) < (x.vals.length : Int) ∧ x.vs.length = 1024 ∧ av = some ⟨bv, offv, none⟩) ∨ (¬ (1024 : Int) < (x.vals.length : Int) ∧ x.vs.length = x.vals.length))
    (HK : Hid (∀ (tm : Array Value) (t v' : Value) (w' : World), tm.size = 174 → tm.getD 0 undef = .slice (some ⟨b0, off0, none⟩) n0 c0 → tm.getD 1 undef = .int .i64 d → tm.getD 2 undef = .pointer (some ⟨q, 0, none⟩) → tm.getD 19 undef = .slice (some ⟨b0, off0, none⟩) n0 c0 → tm.getD 20 undef = .int .i64 n0 → tm.getD 7 undef = v' → tm.getD 21 undef = t → t = .int .i64 ((k + 1 : Nat) : Int) → (∃ U', BSt w w' q U U' (eff d x N1) v' (L1 ++ chunk d x)) → K ⟨tm, []⟩ w')) :
    Code.wp Ybaf.prog body7 (Exit.then K Never) ⟨#[.slice (some ⟨b0, off0, none⟩) n0 c0, .int .i64 d, .pointer (some ⟨q, 0, none⟩), f 3, f 4, f 5, f 6, .slice ab L1.length cb, f 8, f 9, f 10, f 11, f 12, f 13, f 14, f 15, f 16, f 17, f 18, .slice (some ⟨b0, off0, none⟩) n0 c0, .int .i64 n0, .int .i64 k, f 22, f 23, f 24, f 25, f 26, f 27, f 28, f 29, f 30, f 31, f 32, f 33, f 34, f 35, f 36, f 37, f 38, f 39, f 40, f 41, f 42, f 43, f 44, f 45, f 46, f 47, f 48, f 49, f 50, f 51, f 52, f 53, f 54, f 55, f 56, f 57, f 58, f 59, f 60, f 61, f 62, f 63, f 64, f 65, f 66, f 67, f 68, f 69, f 70, f 71, f 72, f 73, f 74, f 75, f 76, f 77, f 78, f 79, f 80, f 81, f 82, f 83, f 84, f 85, f 86, f 87, f 88, f 89, f 90, f 91, f 92, f 93, f 94, f 95, f 96, f 97, f 98, f 99, f 100, f 101, f 102, f 103, f 104, f 105, f 106, f 107, f 108, f 109, f 110, f 111, f 112, f 113, f 114, f 115, f 116, f 117, f 118, f 119, f 120, f 121, f 122, f 123, f 124, f 125, f 126, f 127, f 128, f 129, f 130, f 131, f 132, f 133, f 134, f 135, f 136, f 137, f 138, f 139, f 140, f 141, f 142, f 143, f 144, f 145, f 146, f 147, f 148, f 149, f 150, f 151, f 152, f 153, f 154, f 155, f 156, f 157, f 158, f 159, f 160, f 161, f 162, f 163, f 164, f 165, f 166, f 167, f 168, f 169, f 170, f 171, f 172, f 173], []⟩ wr := by
  conv => arg 2; whnf
  have hSa := hS.alloc (.cells #[.int .u8 x.o, .int .u64 x.v, .slice av x.vals.length cv] 49)
  have hBx := Box.new hS (.cells #[.int .u8 x.o, .int .u64 x.v, .slice av x.vals.length cv] 49)
  have h7z : (kk : Int) < 7 := by omega
  have hnb := num_bd kk
  have hwb := wt_bd kk
  rcases hbz with ⟨hbz, _, rfl⟩ | ⟨hbz, _⟩
  all_goals
    go_wp2_with fail
    refine (num_any kk h7 _).mono ?_
    rintro e w1 ⟨rfl, rfl⟩
    go_wp2_with fail
    refine (wt_any kk h7 _).mono ?_
    rintro e w1 ⟨rfl, rfl⟩
    go_wp2_with fail
    rw [tag_or kk h7]
    refine (varint_any _ L1 (num kk * 8 + wt kk) _ hSa.row (by omega) (by omega) (by omega)).mono ?_
    rintro e w2 ⟨v2, rfl, hR2⟩
    have hS2 := hSa.rowTo hR2
    have hB2 := hBx.rowTo hR2
    have cV := hB2.cell 1 (.int .u64 x.v)
    go_wp2_with fail
    refine (enc_any kk h7 v2 _ x.v _ hS2.row hokx.v0 hokx.v1 (by have := vb_len (num kk * 8 + wt kk); rw [List.length_append]; omega)).mono ?_
    rintro e w3 ⟨v3, rfl, hR3⟩
    have hS3 := hS2.rowTo hR3
    have hB3 := hB2.rowTo hR3
    have cV3 := hB3.cell 1 (.int .u64 x.v)
    clear cV
    go_wp2_with fail
    refine (put_any kk h7 q N1 U1 x.v _ hS3.msg (by have := HN2.out kk; omega)).mono ?_
    rintro e w4 ⟨rfl, hu⟩
    obtain ⟨U4, hS4, hB4⟩ := hS3.upd2 hB3 hu
    clear cV3
    go_wp2_with fail
    exact HK.out _ _ _ _ rfl rfl rfl rfl rfl rfl rfl rfl (by go_num) ⟨U4, by rw [chunk_a HXK.out h7, eff_a HXK.out h7, ← List.append_assoc]; exact hS4⟩

end Go.Proofs.YbulkcbpgFmt
