/-
  Seat b3893aF: zzs3893beq.
-/
import Derived.Test.YbulkcbpgFmtEql
import Derived.Test.YbulkcbpgFmtBuild0
import Derived.BigQuiet
namespace Go.Proofs.YbulkcbpgFmt
open Go.RowKit Go.Deep
set_option linter.unusedVariables false

theorem quiet_at {P : Program} {f : FuncId} {args : Array Value} {w : World} {k n : Nat} {v : Value}
    (h : Calls P f args (w.drewN (k + n)) fun e w' => e = .returned v ∧ ∃ m, w' = (w.drewN (k + n)).drewN m) : Calls P f args (w.drewN (k + n)) fun e w'' => e = .returned v ∧ ∃ m, w'' = w.drewN (k + m) :=
  h.mono fun _ _ ⟨he, m, hm⟩ => ⟨he, n + m, by rw [hm, World.drewN_drewN, Nat.add_assoc]⟩

theorem RdX.drewN {w : World} {v : Value} {xs : List Value} (h : RdX w v xs) (n : Nat) : RdX (w.drewN n) v xs := h

set_option maxRecDepth 20000 in
set_option maxHeartbeats 2000000 in
theorem eq_any (p q : Nat) (M : Nat → List Value) (V U : Nat → Value) (w : World) (h : MsgAt w p M V) (k : MsgAt w q M U) (hx : ∀ i, i < 8 → ∀ x ∈ M i, Fits i x) (hl : ∀ i, (M i).length ≤ 1099511627776) :
    Calls Ybaf.prog 9 #[.pointer (some ⟨p, 0, none⟩), .pointer (some ⟨q, 0, none⟩)] w fun e w' => e = .returned (.bool true) ∧ ∃ k, w' = w.drewN k := by
  have hp0 := h.blk.cell (i := 0) (by omega)
  have hq0 := k.blk.cell (i := 0) (by omega)
  have hr0 := (h.row 0 (by omega)).rdX
  have hs0 := (k.row 0 (by omega)).rdX
  have hx0 := hx 0 (by omega)
  have hl0 := hl 0
  generalize V 0 = v0 at *
  generalize U 0 = u0 at *
  generalize M 0 = m0 at *
  have hp1 := h.blk.cell (i := 1) (by omega)
  have hq1 := k.blk.cell (i := 1) (by omega)
  have hr1 := (h.row 1 (by omega)).rdX
  have hs1 := (k.row 1 (by omega)).rdX
  have hx1 := hx 1 (by omega)
  have hl1 := hl 1
  generalize V 1 = v1 at *
  generalize U 1 = u1 at *
  generalize M 1 = m1 at *
  have hp2 := h.blk.cell (i := 2) (by omega)
  have hq2 := k.blk.cell (i := 2) (by omega)
  have hr2 := (h.row 2 (by omega)).rdX
  have hs2 := (k.row 2 (by omega)).rdX
  have hx2 := hx 2 (by omega)
  have hl2 := hl 2
  generalize V 2 = v2 at *
  generalize U 2 = u2 at *
  generalize M 2 = m2 at *
  have hp3 := h.blk.cell (i := 3) (by omega)
  have hq3 := k.blk.cell (i := 3) (by omega)
  have hr3 := (h.row 3 (by omega)).rdX
  have hs3 := (k.row 3 (by omega)).rdX
  have hx3 := hx 3 (by omega)
  have hl3 := hl 3
  generalize V 3 = v3 at *
  generalize U 3 = u3 at *
  generalize M 3 = m3 at *
  have hp4 := h.blk.cell (i := 4) (by omega)
  have hq4 := k.blk.cell (i := 4) (by omega)
  have hr4 := (h.row 4 (by omega)).rdX
  have hs4 := (k.row 4 (by omega)).rdX
  have hx4 := hx 4 (by omega)
  have hl4 := hl 4
  generalize V 4 = v4 at *
  generalize U 4 = u4 at *
  generalize M 4 = m4 at *
  have hp5 := h.blk.cell (i := 5) (by omega)
  have hq5 := k.blk.cell (i := 5) (by omega)
  have hr5 := (h.row 5 (by omega)).rdX
  have hs5 := (k.row 5 (by omega)).rdX
  have hx5 := hx 5 (by omega)
  have hl5 := hl 5
  generalize V 5 = v5 at *
  generalize U 5 = u5 at *
  generalize M 5 = m5 at *
  have hp6 := h.blk.cell (i := 6) (by omega)
  have hq6 := k.blk.cell (i := 6) (by omega)
  have hr6 := (h.row 6 (by omega)).rdX
  have hs6 := (k.row 6 (by omega)).rdX
  have hx6 := hx 6 (by omega)
  have hl6 := hl 6
  generalize V 6 = v6 at *
  generalize U 6 = u6 at *
  generalize M 6 = m6 at *
  have hp7 := h.blk.cell (i := 7) (by omega)
  have hq7 := k.blk.cell (i := 7) (by omega)
  have hr7 := (h.row 7 (by omega)).rdX
  have hs7 := (k.row 7 (by omega)).rdX
  have hx7 := hx 7 (by omega)
  have hl7 := hl 7
  generalize V 7 = v7 at *
  generalize U 7 = u7 at *
  generalize M 7 = m7 at *
  clear h k hx hl
  obtain ⟨a0, c0, g0, rfl, hlc0, ha0, hcell0⟩ := hr0
  obtain ⟨b0, d0, e0, rfl, hld0, hb0, hdell0⟩ := hs0
  obtain ⟨a1, c1, g1, rfl, hlc1, ha1, hcell1⟩ := hr1
  obtain ⟨b1, d1, e1, rfl, hld1, hb1, hdell1⟩ := hs1
  obtain ⟨n0, H0⟩ := hidEx m0.length
  obtain ⟨n1, H1⟩ := hidEx m1.length
  rw [← H0.out] at hp0 hq0
  rw [← H1.out] at hp1 hq1
  have hn0 : n0 ≤ 1099511627776 := by rw [H0.out]; exact hl0
  have hn1 : n1 ≤ 1099511627776 := by rw [H1.out]; exact hl1
  have hA : ∀ j, j < n0 → ∃ y, a0 = some ⟨g0, 0, none⟩ ∧ b0 = some ⟨e0, 0, none⟩ ∧ w.cell? ⟨g0, j, none⟩ = some (.float .f64 y) ∧ w.cell? ⟨e0, j, none⟩ = some (.float .f64 y) := fun j hj => by
    rw [H0.out] at hj
    obtain ⟨y, hy⟩ := hx0 m0[j] (List.getElem_mem hj)
    exact ⟨y, ha0 (by omega), hb0 (by omega), by rw [hcell0 j hj, hy], by rw [hdell0 j hj, hy]⟩
  have hB : ∀ j, j < n1 → ∃ y, a1 = some ⟨g1, 0, none⟩ ∧ b1 = some ⟨e1, 0, none⟩ ∧ w.cell? ⟨g1, j, none⟩ = some (.float .f32 y) ∧ w.cell? ⟨e1, j, none⟩ = some (.float .f32 y) := fun j hj => by
    rw [H1.out] at hj
    obtain ⟨y, hy⟩ := hx1 m1[j] (List.getElem_mem hj)
    exact ⟨y, ha1 (by omega), hb1 (by omega), by rw [hcell1 j hj, hy], by rw [hdell1 j hj, hy]⟩
  clear hx0 hx1 ha0 hb0 ha1 hb1 hcell0 hdell0 hcell1 hdell1 hlc0 hlc1 hld0 hld1 hl0 hl1
  have HB : Hid (∀ j, j < n1 → ∃ y, a1 = some ⟨g1, 0, none⟩ ∧ b1 = some ⟨e1, 0, none⟩ ∧ w.cell? ⟨g1, j, none⟩ = some (.float .f32 y) ∧ w.cell? ⟨e1, j, none⟩ = some (.float .f32 y)) := hB
  have HA : Hid (∀ j, j < n0 → ∃ y, a0 = some ⟨g0, 0, none⟩ ∧ b0 = some ⟨e0, 0, none⟩ ∧ w.cell? ⟨g0, j, none⟩ = some (.float .f64 y) ∧ w.cell? ⟨e0, j, none⟩ = some (.float .f64 y)) := hA
  clear hA hB
  have q1 := f64bits_run
  have q2 := f32bits_run
  go_enter Ybaf.func9, Ybaf.ntmps9
  go_wp2_with fail
  go_quiet (fail)
  go_wp2_with fail
  go_loopg [5, 36] n0 (fun gh r t wr => (∃ k, wr = w.drewN k) ∧ ∃ (j : Nat), j ≤ n0 ∧ gh = n0 - j ∧ t = .int .i64 j)
  case atStart => exact ⟨⟨_, rfl⟩, 0, by omega, by omega, rfl⟩
  case round =>
    obtain ⟨⟨k, rfl⟩, j, hj, rfl, rfl⟩ := hrel
    by_cases hjl : j < n0
    · obtain ⟨y, rfl, rfl, hcb, hcb2⟩ := HA.out j hjl
      have hltz : (j : Int) < (n0 : Int) := by omega
      go_wp2_with fail
      go_quiet (fail)
      go_wp2_with fail
      go_roundg (n0 - (j + 1))
      case measure => omega
      case rel => exact ⟨⟨_, rfl⟩, j + 1, by omega, rfl, by go_num⟩
    · have hltz : ¬ (j : Int) < (n0 : Int) := by omega
      go_wp2_with fail
      go_loopg [6, 62] n1 (fun gh r t wr => (∃ k, wr = w.drewN k) ∧ ∃ (j : Nat), j ≤ n1 ∧ gh = n1 - j ∧ t = .int .i64 j)
      case atStart => exact ⟨⟨_, rfl⟩, 0, by omega, by omega, rfl⟩
      case round =>
        obtain ⟨⟨k2, rfl⟩, j2, hj2, rfl, rfl⟩ := hrel
        by_cases hjl2 : j2 < n1
        · obtain ⟨y, rfl, rfl, hcb, hcb2⟩ := HB.out j2 hjl2
          have hltz2 : (j2 : Int) < (n1 : Int) := by omega
          go_wp2_with fail
          go_quiet (fail)
          go_wp2_with fail
          go_roundg (n1 - (j2 + 1))
          case measure => omega
          case rel => exact ⟨⟨_, rfl⟩, j2 + 1, by omega, rfl, by go_num⟩
        · have hltz2 : ¬ (j2 : Int) < (n1 : Int) := by omega
          go_wp2_with fail
          go_quiet (first
            | (go_at_call 36; exact quiet_at (equal2_any _ _ _ _ (hr2.drewN _) (hs2.drewN _) hx2 hl2))
            | (go_at_call 37; exact quiet_at (equal3_any _ _ _ _ (hr3.drewN _) (hs3.drewN _) hx3 hl3))
            | (go_at_call 38; exact quiet_at (equal4_any _ _ _ _ (hr4.drewN _) (hs4.drewN _) hx4 hl4))
            | (go_at_call 39; exact quiet_at (equal5_any _ _ _ _ (hr5.drewN _) (hs5.drewN _) hx5 hl5))
            | (go_at_call 40; exact quiet_at (equal6_any _ _ _ _ (hr6.drewN _) (hs6.drewN _) hx6 hl6))
            | (go_at_call 41; exact quiet_at (equal7_any _ _ _ _ (hr7.drewN _) (hs7.drewN _) hx7 hl7)))
          go_wp2_with fail
          go_ret
          exact ⟨rfl, _, World.drewN_drewN _ _ _⟩
end Go.Proofs.YbulkcbpgFmt
