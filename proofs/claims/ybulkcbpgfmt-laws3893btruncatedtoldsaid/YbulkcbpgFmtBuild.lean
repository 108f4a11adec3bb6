/-
  Seat b3893aF: zzs3893bbuild, its cases joined.
-/
import Derived.Test.YbulkcbpgFmtBfr
import Derived.Test.YbulkcbpgFmtBcA
import Derived.Test.YbulkcbpgFmtBcB
import Derived.Test.YbulkcbpgFmtBc14
import Derived.Test.YbulkcbpgFmtBc15
import Derived.Test.YbulkcbpgFmtBc16
import Derived.Test.YbulkcbpgFmtBc17
import Derived.Test.YbulkcbpgFmtBc18
import Derived.Test.YbulkcbpgFmtBc19d
import Derived.Test.YbulkcbpgFmtBc19z
namespace Go.Proofs.YbulkcbpgFmt
open Go.RowKit Go.Deep
set_option linter.unusedVariables false

theorem arr_lit (tm : Array Value) (n : Nat) (h : tm.size = n) : tm = ((List.range n).map (fun i => tm.getD i undef)).toArray := by
  subst h
  apply Array.ext
  · simp
  · intro i h1 h2
    simp [Array.getD, h1]

set_option maxRecDepth 100000 in
theorem frame7 (g : Nat → Value) : ((List.range 174).map g).toArray = #[g 0, g 1, g 2, g 3, g 4, g 5, g 6, g 7, g 8, g 9, g 10, g 11, g 12, g 13, g 14, g 15, g 16, g 17, g 18, g 19, g 20, g 21, g 22, g 23, g 24, g 25, g 26, g 27, g 28, g 29, g 30, g 31, g 32, g 33, g 34, g 35, g 36, g 37, g 38, g 39, g 40, g 41, g 42, g 43, g 44, g 45, g 46, g 47, g 48, g 49, g 50, g 51, g 52, g 53, g 54, g 55, g 56, g 57, g 58, g 59, g 60, g 61, g 62, g 63, g 64, g 65, g 66, g 67, g 68, g 69, g 70, g 71, g 72, g 73, g 74, g 75, g 76, g 77, g 78, g 79, g 80, g 81, g 82, g 83, g 84, g 85, g 86, g 87, g 88, g 89, g 90, g 91, g 92, g 93, g 94, g 95, g 96, g 97, g 98, g 99, g 100, g 101, g 102, g 103, g 104, g 105, g 106, g 107, g 108, g 109, g 110, g 111, g 112, g 113, g 114, g 115, g 116, g 117, g 118, g 119, g 120, g 121, g 122, g 123, g 124, g 125, g 126, g 127, g 128, g 129, g 130, g 131, g 132, g 133, g 134, g 135, g 136, g 137, g 138, g 139, g 140, g 141, g 142, g 143, g 144, g 145, g 146, g 147, g 148, g 149, g 150, g 151, g 152, g 153, g 154, g 155, g 156, g 157, g 158, g 159, g 160, g 161, g 162, g 163, g 164, g 165, g 166, g 167, g 168, g 169, g 170, g 171, g 172, g 173] := rfl

theorem frame7_of (tm : Array Value) (h : tm.size = 174) (x0 x1 x2 x7 x19 x20 x21 : Value) (h0 : tm.getD 0 undef = x0) (h1 : tm.getD 1 undef = x1) (h2 : tm.getD 2 undef = x2) (h7 : tm.getD 7 undef = x7) (h19 : tm.getD 19 undef = x19) (h20 : tm.getD 20 undef = x20) (h21 : tm.getD 21 undef = x21) :
    ∃ f : Nat → Value, tm = #[x0, x1, x2, f 3, f 4, f 5, f 6, x7, f 8, f 9, f 10, f 11, f 12, f 13, f 14, f 15, f 16, f 17, f 18, x19, x20, x21, f 22, f 23, f 24, f 25, f 26, f 27, f 28, f 29, f 30, f 31, f 32, f 33, f 34, f 35, f 36, f 37, f 38, f 39, f 40, f 41, f 42, f 43, f 44, f 45, f 46, f 47, f 48, f 49, f 50, f 51, f 52, f 53, f 54, f 55, f 56, f 57, f 58, f 59, f 60, f 61, f 62, f 63, f 64, f 65, f 66, f 67, f 68, f 69, f 70, f 71, f 72, f 73, f 74, f 75, f 76, f 77, f 78, f 79, f 80, f 81, f 82, f 83, f 84, f 85, f 86, f 87, f 88, f 89, f 90, f 91, f 92, f 93, f 94, f 95, f 96, f 97, f 98, f 99, f 100, f 101, f 102, f 103, f 104, f 105, f 106, f 107, f 108, f 109, f 110, f 111, f 112, f 113, f 114, f 115, f 116, f 117, f 118, f 119, f 120, f 121, f 122, f 123, f 124, f 125, f 126, f 127, f 128, f 129, f 130, f 131, f 132, f 133, f 134, f 135, f 136, f 137, f 138, f 139, f 140, f 141, f 142, f 143, f 144, f 145, f 146, f 147, f 148, f 149, f 150, f 151, f 152, f 153, f 154, f 155, f 156, f 157, f 158, f 159, f 160, f 161, f 162, f 163, f 164, f 165, f 166, f 167, f 168, f 169, f 170, f 171, f 172, f 173] := by
  subst h0 h1 h2 h7 h19 h20 h21
  exact ⟨fun i => tm.getD i undef, (arr_lit tm 174 h).trans (frame7 _)⟩

/-- The loop's invariant. -/
def Inv7 (b0 off0 n0 c0 d q : Nat) (R : Nat → Value → World → Prop) (n : Nat) (a : Act) (w : World) : Prop :=
  a.defers = [] ∧ a.tmps.size = 174 ∧ (0 < n0 → a.tmps.getD 0 undef = .slice (some ⟨b0, off0, none⟩) n0 c0) ∧ a.tmps.getD 1 undef = .int .i64 d ∧ a.tmps.getD 2 undef = .pointer (some ⟨q, 0, none⟩) ∧ (0 < n0 → a.tmps.getD 19 undef = .slice (some ⟨b0, off0, none⟩) n0 c0) ∧ a.tmps.getD 20 undef = .int .i64 n0 ∧
  ∃ k : Nat, k ≤ n0 ∧ n = n0 - k ∧ a.tmps.getD 21 undef = .int .i64 k ∧ R k (a.tmps.getD 7 undef) w

set_option maxHeartbeats 4000000 in
set_option maxRecDepth 100000 in
theorem build_any (wI : World) (v0 : Value) (ops : List SOp) (d : Nat) (q : Nat) (N : Nat → List Value) (U : Nat → Value) (w : World) (h0 : OpsAt wI v0 ops) (hok : ∀ x ∈ ops, okOp x) (hn : ops.length ≤ 1024) (hd : d ≤ 3) (hm : MsgAt w q N U) (hN : ∀ i, (N i).length ≤ 2048)
    (hI : Chg No wI w) (hfr : ∀ k, Foot q U k → wI.heap.size ≤ k) :
    Calls Ybaf.prog 7 #[v0, .int .i64 d, .pointer (some ⟨q, 0, none⟩)] w fun e w' => ∃ v', e = .returned v' ∧ ∃ U', BSt w w' q U U' (effs d ops N) v' (chunks d ops) := by
  obtain ⟨a0, c0, b0, off0, rfl, hx0, hcell0⟩ := h0
  have hwI := hI.size
  go_enter Ybaf.func7, Ybaf.ntmps7
  go_wp2_with fail
  change Code.wp _ (Code.loop body7) _ _ _
  refine wp_loop_ghost (Inv7 b0 off0 ops.length c0 d q (fun k v wr => ∃ U', BSt w wr q U U' (effs d (ops.take k) N) v (chunks d (ops.take k)))) ops.length ?_ ?_
  · refine ⟨rfl, rfl, fun h => by rw [hx0 h]; rfl, rfl, rfl, fun h => by rw [hx0 h]; rfl, rfl, 0, Nat.zero_le _, rfl, rfl, U, by simpa [effs, chunks] using BSt.start hm⟩
  · rintro n ⟨tm, df⟩ wr ⟨hdf, hsz, t0, t1, t2, t19, t20, k, hk, rfl, t21, U1, hS⟩
    have hdf : df = [] := hdf
    subst hdf
    have hsz : tm.size = 174 := hsz
    by_cases hlt : k < ops.length
    · have hltz : (k : Int) < (ops.length : Int) := by omega
      have t0 : tm.getD 0 undef = _ := t0 (by omega)
      have t19 : tm.getD 19 undef = _ := t19 (by omega)
      have t1 : tm.getD 1 undef = _ := t1
      have t2 : tm.getD 2 undef = _ := t2
      have t20 : tm.getD 20 undef = _ := t20
      have t21 : tm.getD 21 undef = _ := t21
      have hS : BSt w wr q U U1 _ (tm.getD 7 undef) _ := hS
      have hIr : Chg No wI wr := hI.trans hS.chg (fun b hb hF => by have := hfr b hF; omega)
      have hfr1 : ∀ k, Foot q U1 k → wI.heap.size ≤ k := fun k hF => by
        rcases hS.foot k hF with e | e
        · exact hfr k e
        · omega
      obtain ⟨hc1, hc2, sv, hc3, hsv⟩ := hcell0 k hlt
      have g1 := (hIr.cell (World.block_lt_of_cell? _ _ hc1) (fun hf => hf)).trans hc1
      have g2 := (hIr.cell (World.block_lt_of_cell? _ _ hc2) (fun hf => hf)).trans hc2
      have g3 := (hIr.cell (World.block_lt_of_cell? _ _ hc3) (fun hf => hf)).trans hc3
      obtain ⟨av, cv, bv, offv, rfl, hlcv, hxv, hcv⟩ := hsv.form
      have hokx := hok _ (List.getElem_mem hlt)
      have hstepC := chunks_step d ops k hlt
      have hstepE := effs_step d ops k hlt N
      have hlenL := chunks_len d (ops.take k)
      have hlenN := fun i => effs_len d (ops.take k) N i
      rw [List.length_take, Nat.min_eq_left (by omega)] at hlenL hlenN
      have hL : (chunks d (ops.take k)).length ≤ 10547200 := by omega
      have hN2 : ∀ i, (effs d (ops.take k) N i).length ≤ 10549248 := fun i => by have := hlenN i; have := hN i; omega
      rw [List.length_map] at hxv hcv g3 hlcv
      have hx := hokx.o0
      have hx1 := hokx.o1
      obtain ⟨ab, cb, t7⟩ := hS.row.form
      rw [t7] at hS
      have hbz : ((1024 : Int) < (ops[k].vals.length : Int) ∧ ops[k].vs.length = 1024 ∧ av = some ⟨bv, offv, none⟩) ∨ (¬ (1024 : Int) < (ops[k].vals.length : Int) ∧ ops[k].vs.length = ops[k].vals.length) := by
        unfold SOp.vs
        by_cases h : 1024 < ops[k].vals.length
        · exact .inl ⟨by omega, by simp; omega, hxv (by omega)⟩
        · exact .inr ⟨by omega, by simp; omega⟩
      obtain ⟨kk, hkk⟩ : ∃ kk : Nat, ops[k].o % 20 = kk := ⟨(ops[k].o % 20).toNat, by omega⟩
      have hk20 : kk < 20 := by omega
      have HXK : Hid (ops[k].k = kk) := by show ops[k].k = kk; unfold SOp.k; omega
      have hcase : kk < 7 ∨ (7 ≤ kk ∧ kk < 14) ∨ kk = 14 ∨ kk = 15 ∨ kk = 16 ∨ kk = 17 ∨ kk = 18 ∨ (kk = 19 ∧ 0 < d) ∨ (kk = 19 ∧ ¬ 0 < d) := by omega
      obtain ⟨f, hfrm2⟩ := frame7_of tm hsz _ _ _ _ _ _ _ t0 t1 t2 t7 t19 t20 t21
      have HK : Hid (∀ (tm : Array Value) (t v' : Value) (w' : World), tm.size = 174 → tm.getD 0 undef = .slice (some ⟨b0, off0, none⟩) ops.length c0 → tm.getD 1 undef = .int .i64 d → tm.getD 2 undef = .pointer (some ⟨q, 0, none⟩) → tm.getD 19 undef = .slice (some ⟨b0, off0, none⟩) ops.length c0 → tm.getD 20 undef = .int .i64 ops.length → tm.getD 7 undef = v' → tm.getD 21 undef = t → t = .int .i64 ((k + 1 : Nat) : Int) → (∃ U', BSt w w' q U U' (eff d ops[k] (effs d (ops.take k) N)) v' (chunks d (ops.take k) ++ chunk d ops[k])) →
          ∃ n', n' < ops.length - k ∧ Inv7 b0 off0 ops.length c0 d q (fun k v wr => ∃ U', BSt w wr q U U' (effs d (ops.take k) N) v (chunks d (ops.take k))) n' ⟨tm, []⟩ w') := by
        intro tm t v' w' s0 s1 s2 s3 s4 s5 s6 s7 s8 ⟨U', hb⟩
        subst s6 s8
        exact ⟨ops.length - (k + 1), by omega, rfl, s0, fun _ => s1, s2, s3, fun _ => s4, s5, k + 1, by omega, rfl, s7, U', by rw [hstepC, hstepE]; exact hb⟩
      clear t0 t1 t2 t7 t19 t20 t21
      rw [hfrm2]
      clear hfrm2
      rcases hcase with h7 | hE | hE | hE | hE | hE | hE | hE | hE
      · refine wp_mono (bc_A wI w wr ops[k] ops.length d q k kk b0 off0 c0 _ U U1 _ av cv bv offv ab cb f (fun a' w' => ∃ n', n' < ops.length - k ∧ Inv7 b0 off0 ops.length c0 d q (fun k v wr => ∃ U', BSt w wr q U U' (effs d (ops.take k) N) v (chunks d (ops.take k))) n' a' w') h7 hd hn hltz hwI hI hfr hIr hfr1 g1 g2 g3 hlcv hokx hL hN2 hxv hcv hx hx1 hkk hk20 HXK hS hbz HK) ?_
        intro e a' w' h
        cases e <;> first | exact h | exact h.elim
      · refine wp_mono (bc_B wI w wr ops[k] ops.length d q k kk b0 off0 c0 _ U U1 _ av cv bv offv ab cb f (fun a' w' => ∃ n', n' < ops.length - k ∧ Inv7 b0 off0 ops.length c0 d q (fun k v wr => ∃ U', BSt w wr q U U' (effs d (ops.take k) N) v (chunks d (ops.take k))) n' a' w') hE hd hn hltz hwI hI hfr hIr hfr1 g1 g2 g3 hlcv hokx hL hN2 hxv hcv hx hx1 hkk hk20 HXK hS hbz HK) ?_
        intro e a' w' h
        cases e <;> first | exact h | exact h.elim
      · refine wp_mono (bc_14 wI w wr ops[k] ops.length d q k kk b0 off0 c0 _ U U1 _ av cv bv offv ab cb f (fun a' w' => ∃ n', n' < ops.length - k ∧ Inv7 b0 off0 ops.length c0 d q (fun k v wr => ∃ U', BSt w wr q U U' (effs d (ops.take k) N) v (chunks d (ops.take k))) n' a' w') hE hd hn hltz hwI hI hfr hIr hfr1 g1 g2 g3 hlcv hokx hL hN2 hxv hcv hx hx1 hkk hk20 HXK hS hbz HK) ?_
        intro e a' w' h
        cases e <;> first | exact h | exact h.elim
      · refine wp_mono (bc_15 wI w wr ops[k] ops.length d q k kk b0 off0 c0 _ U U1 _ av cv bv offv ab cb f (fun a' w' => ∃ n', n' < ops.length - k ∧ Inv7 b0 off0 ops.length c0 d q (fun k v wr => ∃ U', BSt w wr q U U' (effs d (ops.take k) N) v (chunks d (ops.take k))) n' a' w') hE hd hn hltz hwI hI hfr hIr hfr1 g1 g2 g3 hlcv hokx hL hN2 hxv hcv hx hx1 hkk hk20 HXK hS hbz HK) ?_
        intro e a' w' h
        cases e <;> first | exact h | exact h.elim
      · refine wp_mono (bc_16 wI w wr ops[k] ops.length d q k kk b0 off0 c0 _ U U1 _ av cv bv offv ab cb f (fun a' w' => ∃ n', n' < ops.length - k ∧ Inv7 b0 off0 ops.length c0 d q (fun k v wr => ∃ U', BSt w wr q U U' (effs d (ops.take k) N) v (chunks d (ops.take k))) n' a' w') hE hd hn hltz hwI hI hfr hIr hfr1 g1 g2 g3 hlcv hokx hL hN2 hxv hcv hx hx1 hkk hk20 HXK hS hbz HK) ?_
        intro e a' w' h
        cases e <;> first | exact h | exact h.elim
      · refine wp_mono (bc_17 wI w wr ops[k] ops.length d q k kk b0 off0 c0 _ U U1 _ av cv bv offv ab cb f (fun a' w' => ∃ n', n' < ops.length - k ∧ Inv7 b0 off0 ops.length c0 d q (fun k v wr => ∃ U', BSt w wr q U U' (effs d (ops.take k) N) v (chunks d (ops.take k))) n' a' w') hE hd hn hltz hwI hI hfr hIr hfr1 g1 g2 g3 hlcv hokx hL hN2 hxv hcv hx hx1 hkk hk20 HXK hS hbz HK) ?_
        intro e a' w' h
        cases e <;> first | exact h | exact h.elim
      · refine wp_mono (bc_18 wI w wr ops[k] ops.length d q k kk b0 off0 c0 _ U U1 _ av cv bv offv ab cb f (fun a' w' => ∃ n', n' < ops.length - k ∧ Inv7 b0 off0 ops.length c0 d q (fun k v wr => ∃ U', BSt w wr q U U' (effs d (ops.take k) N) v (chunks d (ops.take k))) n' a' w') hE hd hn hltz hwI hI hfr hIr hfr1 g1 g2 g3 hlcv hokx hL hN2 hxv hcv hx hx1 hkk hk20 HXK hS hbz HK) ?_
        intro e a' w' h
        cases e <;> first | exact h | exact h.elim
      · refine wp_mono (bc_19d wI w wr ops[k] ops.length d q k kk b0 off0 c0 _ U U1 _ av cv bv offv ab cb f (fun a' w' => ∃ n', n' < ops.length - k ∧ Inv7 b0 off0 ops.length c0 d q (fun k v wr => ∃ U', BSt w wr q U U' (effs d (ops.take k) N) v (chunks d (ops.take k))) n' a' w') hE hd hn hltz hwI hI hfr hIr hfr1 g1 g2 g3 hlcv hokx hL hN2 hxv hcv hx hx1 hkk hk20 HXK hS hbz HK) ?_
        intro e a' w' h
        cases e <;> first | exact h | exact h.elim
      · refine wp_mono (bc_19z wI w wr ops[k] ops.length d q k kk b0 off0 c0 _ U U1 _ av cv bv offv ab cb f (fun a' w' => ∃ n', n' < ops.length - k ∧ Inv7 b0 off0 ops.length c0 d q (fun k v wr => ∃ U', BSt w wr q U U' (effs d (ops.take k) N) v (chunks d (ops.take k))) n' a' w') hE hd hn hltz hwI hI hfr hIr hfr1 g1 g2 g3 hlcv hokx hL hN2 hxv hcv hx hx1 hkk hk20 HXK hS hbz HK) ?_
        intro e a' w' h
        cases e <;> first | exact h | exact h.elim
    · have hke : k = ops.length := by omega
      subst hke
      rw [List.take_length] at hS
      have hS : BSt w wr q U U1 _ (tm.getD 7 undef) _ := hS
      have t20 : tm.getD 20 undef = _ := t20
      have t21 : tm.getD 21 undef = _ := t21
      obtain ⟨f, hfrm2⟩ := frame7_of tm hsz _ _ _ _ _ _ _ rfl rfl rfl rfl rfl t20 t21
      generalize tm.getD 7 undef = v7 at *
      generalize tm.getD 0 undef = v0 at *
      generalize tm.getD 1 undef = v1 at *
      generalize tm.getD 2 undef = v2 at *
      generalize tm.getD 19 undef = v19 at *
      clear hcell0
      subst hfrm2
      conv => arg 2; whnf
      go_wp2
      go_ret
      exact ⟨_, rfl, U1, hS⟩

end Go.Proofs.YbulkcbpgFmt
