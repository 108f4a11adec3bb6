/-
  Seat b3893aF: wiregen.ConsumeBytes and CountVarints.
-/
import Derived.Test.YbulkcbpgFmtFix
namespace Go.Proofs.YbulkcbpgFmt
open Go.RowKit Go.Deep
set_option linter.unusedVariables false

theorem RdV.nil (w : World) (g : Nat) (a : Option Addr) (c : Nat) : RdV w g (.slice a 0 c) [] :=
  ⟨a, c, 0, rfl, Nat.zero_le _, fun h => absurd h (by simp), fun j hj => absurd hj (by simp)⟩

/-- A piece of what is read. -/
theorem RdV.mid {w : World} {g : Nat} {a : Option Addr} {n c k m c' : Nat} {P Q R : List Int} (h : RdV w g (.slice a n c) (P ++ (Q ++ R))) (hk : P.length = k) (hm : Q.length = m) (hc : m ≤ c') :
    RdV w g (.slice (Option.map (fun x => x.add k) a) m c') Q := by
  subst hk hm
  obtain ⟨a', c0, off, hv, hl, ha, hcell⟩ := h
  injection hv with e1 e2 e3
  subst e1 e2 e3
  refine ⟨_, c', off + P.length, rfl, hc, fun hQ => ?_, fun j hj => ?_⟩
  · rw [ha (by simp only [List.length_append]; omega)]; simp [Addr.add]
  · have := hcell (P.length + j) (by simp only [List.length_append]; omega)
    rw [Nat.add_assoc, this]
    congr 2
    have e : (P ++ (Q ++ R))[P.length + j]? = Q[j]? := by
      rw [List.getElem?_append_right (by omega), Nat.add_sub_cancel_left, List.getElem?_append_left hj]
    rw [List.getElem?_eq_getElem (by simp only [List.length_append]; omega), List.getElem?_eq_getElem hj] at e
    exact Option.some.inj e

set_option maxHeartbeats 800000 in
theorem cbytes_core (a : Option Addr) (n c k m t : Nat) (w : World) (ht : t = k + m) (hkm : k + m ≤ n) (hnc : n ≤ c) (hl : n ≤ 549755813888)
    (hcall : Calls Ybaf.prog 30 #[.slice a n c] w fun e w' => e = .returned (.tuple #[.int .u64 m, .int .i64 k, .nilIface]) ∧ w' = w) :
    Calls Ybaf.prog 21 #[.slice a n c] w fun e w' => ∃ u, e = .returned (.tuple #[u, .int .i64 (t : Int), .nilIface]) ∧ w' = w ∧ (m = 0 ∧ u = .slice a 0 0 ∨ u = .slice (Option.map (fun x => x.add k) a) m m) := by
  have HT : Hid (t = k + m) := ht
  clear ht
  go_enter Ybaf.func21, Ybaf.ntmps21
  go_wp2_with fail
  refine hcall.mono ?_
  rintro e w1 ⟨rfl, rfl⟩
  go_wp2_with fail
  · have hm : m = 0 := by omega
    have e : ((k : Int) + m) = (t : Int) := by rw [HT.out]; omega
    rw [e]
    exact bodyPost_ret (v := .tuple #[.slice a 0 0, .int .i64 (t : Int), .nilIface]) (by simp [results, Ybaf.results21, go_sem]) rfl ⟨_, rfl, rfl, .inl ⟨hm, rfl⟩⟩
  · have e : ((k : Int) + m) = (t : Int) := by rw [HT.out]; omega
    rw [e]
    exact bodyPost_ret (v := .tuple #[.slice (Option.map (fun x => x.add k) a) m m, .int .i64 (t : Int), .nilIface]) (by simp [results, Ybaf.results21, go_sem]) rfl (by simp)

theorem cbytes_any (g : Nat) (v : Value) (L rest : List Int) (w : World) (h : RdV w g v (vb L.length ++ (L ++ rest))) (hl : (vb L.length ++ (L ++ rest)).length ≤ 549755813888) :
    Calls Ybaf.prog 21 #[v] w fun e w' => ∃ u, e = .returned (.tuple #[u, .int .i64 (((vb L.length).length + L.length : Nat) : Int), .nilIface]) ∧ w' = w ∧ RdV w g u L := by
  have hlen : (vb L.length ++ (L ++ rest)).length = (vb L.length).length + (L.length + rest.length) := by simp only [List.length_append]
  have hcall := cvarint_any g v L.length (L ++ rest) w h (by omega) (by omega) (by omega)
  obtain ⟨a, c, off, rfl, hlc, ha, hcell⟩ := id h
  refine (cbytes_core a _ c (vb L.length).length L.length _ w rfl (by omega) hlc hl hcall).mono ?_
  rintro e w' ⟨u, rfl, rfl, hu⟩
  refine ⟨u, rfl, rfl, ?_⟩
  rcases hu with ⟨h0, rfl⟩ | rfl
  · obtain rfl : L = [] := List.length_eq_zero_iff.1 h0
    exact RdV.nil _ _ _ _
  · exact h.mid rfl rfl (Nat.le_refl _)

/-- wiregen.CountVarints answers a count that is no more than the length. -/
theorem count_any (g : Nat) (v : Value) (L : List Int) (w : World) (h : RdV w g v L) (hb : ∀ x ∈ L, 0 ≤ x ∧ x < 256) (hl : L.length ≤ 549755813888) :
    Calls Ybaf.prog 32 #[v] w fun e w' => w' = w ∧ ∃ k : Nat, k ≤ L.length ∧ e = .returned (.int .i64 k) := by
  obtain ⟨a, c, off, rfl, hlc, ha, hcell⟩ := h
  go_enter Ybaf.func32, Ybaf.ntmps32
  go_wp2_with fail
  go_loopg [3, 8] L.length (fun gh acc t wr => wr = w ∧ ∃ (j k : Nat), j ≤ L.length ∧ k ≤ j ∧ gh = L.length - j ∧ t = .int .i64 j ∧ acc = .int .i64 k)
  case atStart => exact ⟨rfl, 0, 0, by omega, by omega, by omega, rfl, rfl⟩
  case round =>
    obtain ⟨rfl, j, k, hj, hk, rfl, rfl, rfl⟩ := hrel
    by_cases hjl : j < L.length
    · obtain rfl := ha (by omega)
      have hcb := hcell j hjl
      have hltz : (j : Int) < (L.length : Int) := by omega
      obtain ⟨hy0, hy1⟩ := hb L[j] (List.getElem_mem hjl)
      generalize L[j] = y at *
      clear hcell ha hb
      generalize L.length = n at *
      go_wp2
      · go_roundg (n - (j + 1))
        case measure => omega
        case rel => exact ⟨rfl, j + 1, k + 1, by omega, by omega, rfl, by go_num, by go_num⟩
      · go_roundg (n - (j + 1))
        case measure => omega
        case rel => exact ⟨rfl, j + 1, k, by omega, by omega, rfl, by go_num, rfl⟩
    · have hltz : ¬ (j : Int) < (L.length : Int) := by omega
      go_wp2
      go_ret
      exact ⟨rfl, k, by omega, rfl⟩
end Go.Proofs.YbulkcbpgFmt
