/-
  Seat b3893aF: the arguments opened.
-/
import Derived.Test.YbulkcbpgFmtBuild0
import Derived.ProofKit
import Derived.Deep.Slices
import Derived.Deep.SlicePairs
import Derived.Deep.Strs
namespace Go.Proofs.YbulkcbpgFmt
open Go.ChangeShapes Go.WideShapes Go.ChangeAt Go.RowKit Go.Deep
set_option linter.unusedVariables false

section
variable {H : Type} {enc : TypeId × Value → H} {W : World} {sp : Nat → Bool} {held : Bool}

/-- A slice of integers, opened. -/
theorem open_src {t e : TypeId} {k : IntKind} {fuel : Nat} {v : Value} {x : DataW H × List MemPlace} (ht : Ybaf.prog.underlying t = some (.slice e)) (he : Ybaf.prog.underlying e = some (.int k)) (hc : Ybaf.prog.cellsOf e = 1)
    (h : DataW.trod enc Ybaf.prog W 0 sp held fuel t [v] = some x) : ∃ zs : List Int, SrcV W v (zs.map (Value.int k)) ∧ ∀ n ∈ zs, (Lit.int k n).wf = true := by
  rcases open_ints ht he hc h with ⟨hcs, _⟩ | ⟨a, len, cap, zs, hcs, hb, hl, hm, hz, _, hcell, hwf⟩
  · obtain rfl : v = .slice none 0 0 := by simpa using hcs
    exact ⟨[], .inl ⟨rfl, rfl⟩, fun n hn => by cases hn⟩
  · obtain rfl : v = .slice (some a) len cap := by simpa using hcs
    have hlz : len ≤ zs.length := by rw [hz]; split <;> omega
    have hlen : (zs.take len).length = len := by rw [List.length_take]; omega
    refine ⟨zs.take len, .inr ⟨a, cap, by rw [List.length_map, hlen], by rw [List.length_map, hlen]; exact hl, fun j u hu => ?_⟩, fun n hn => hwf n (List.mem_of_mem_take hn)⟩
    have hj : j < len := by
      rcases Nat.lt_or_ge j len with e | e
      · exact e
      · rw [List.getElem?_eq_none (by rw [List.length_map, hlen]; exact e)] at hu; cases hu
    rw [hcell j (by omega), ← hu, List.getElem?_map, List.getElem?_take, if_pos hj, List.getElem?_eq_getElem (by omega)]
    simp [List.getD, List.getElem?_eq_getElem (show j < zs.length by omega)]

theorem cells49 : Ybaf.prog.cellsOf 49 = 3 := by kernel_rfl
theorem cells5 : Ybaf.prog.cellsOf 5 = 1 := by kernel_rfl
theorem cells34 : Ybaf.prog.cellsOf 34 = 1 := by kernel_rfl
theorem cells23 : Ybaf.prog.cellsOf 23 = 1 := by kernel_rfl

theorem wf_u64 {n : Int} (h : (Lit.int .u64 n).wf = true) : 0 ≤ n ∧ n < 18446744073709551616 := by
  have e1 : IntKind.u64.min = 0 := rfl
  have e2 : IntKind.u64.max = 18446744073709551615 := rfl
  simp [Lit.wf, e1, e2] at h
  omega
theorem wf_u8 {n : Int} (h : (Lit.int .u8 n).wf = true) : 0 ≤ n ∧ n ≤ 255 := by
  have e1 : IntKind.u8.min = 0 := rfl
  have e2 : IntKind.u8.max = 255 := rfl
  simp [Lit.wf, e1, e2] at h
  omega

set_option maxRecDepth 100000 in
/-- The script, opened. -/
theorem open_ops {fuel : Nat} {v : Value} {x : DataW H × List MemPlace} (h : DataW.trod enc Ybaf.prog W 0 sp held fuel 22 [v] = some x) : ∃ ops : List SOp, OpsAt W v ops ∧ ∀ y ∈ ops, okOp y := by
  rcases open_slice Ybaf.underlying22 h with ⟨hcs, _⟩ | ⟨a, len, cap, m, n, D, Pl, hcs, hb, hl, hm, hmm, _, hx⟩
  · obtain rfl : v = .slice none 0 0 := by simpa using hcs
    exact ⟨[], ⟨none, 0, 0, 0, rfl, fun h => absurd h (by simp), fun j hj => absurd hj (by simp)⟩, fun y hy => by cases hy⟩
  · obtain rfl : v = .slice (some a) len cap := by simpa using hcs
    have hlm : len ≤ m := by rw [hmm]; split <;> omega
    have each : ∀ i, i < m → ∃ q : SOp, okOp q ∧ W.cell? (a.add (i * 3)) = some (.int .u8 q.o) ∧ W.cell? (a.add (i * 3 + 1)) = some (.int .u64 q.v) ∧ ∃ sv, W.cell? (a.add (i * 3 + 2)) = some sv ∧ SrcV W sv (q.vals.map (Value.int .u64)) := by
      intro i hi
      obtain ⟨cs', h1, h2⟩ := hx i hi
      rw [cells49] at h1
      obtain ⟨_, hlen, hcell⟩ := World.cells?_some h1
      obtain ⟨y0, y1, y2, k, hxy, _, g0, g1, g2⟩ := trod_struct3 Ybaf.underlying49 h2
      match cs', hlen with
      | [v0, v1, v2], _ =>
        simp only [cells5, cells34, cells23, List.drop, List.take] at g0 g1 g2
        obtain ⟨s, e0, _, w0⟩ := DataW.trod_int Ybaf.underlying5 g0
        obtain ⟨q, e1, _, w1⟩ := DataW.trod_int Ybaf.underlying34 g1
        obtain ⟨zs, hz, hzw⟩ := open_src Ybaf.underlying23 Ybaf.underlying34 cells34 g2
        simp only [List.cons.injEq, and_true] at e0 e1
        subst e0; subst e1
        have c0 := hcell 0 (by omega)
        have c1 := hcell 1 (by omega)
        have c2 := hcell 2 (by omega)
        rw [add_add] at c0 c1 c2
        exact ⟨⟨s, q, zs⟩, ⟨(wf_u8 w0).1, (wf_u8 w0).2, (wf_u64 w1).1, (wf_u64 w1).2, fun z hz => wf_u64 (hzw z hz)⟩, by simpa using c0, by simpa using c1, v2, by simpa using c2, hz⟩
    obtain ⟨q, hq⟩ : ∃ q : Nat → SOp, ∀ i, i < m → okOp (q i) ∧ W.cell? (a.add (i * 3)) = some (.int .u8 (q i).o) ∧ W.cell? (a.add (i * 3 + 1)) = some (.int .u64 (q i).v) ∧ ∃ sv, W.cell? (a.add (i * 3 + 2)) = some sv ∧ SrcV W sv ((q i).vals.map (Value.int .u64)) := by
      refine ⟨fun i => if hi : i < m then (each i hi).choose else ⟨0, 0, []⟩, fun i hi => ?_⟩
      simp only [hi, dif_pos]
      exact (each i hi).choose_spec
    have hlen : ((List.range len).map q).length = len := by simp
    have hget : ∀ j (hj : j < ((List.range len).map q).length), ((List.range len).map q)[j] = q j := fun j hj => by simp
    have hsp : 0 < len → a = ⟨a.block, a.off, none⟩ := fun h0 => by
      have hc := (hq 0 (by omega)).2.1
      have := World.cell?_spot hc
      obtain ⟨b, o, sp⟩ := a
      simpa [Addr.add] using this
    refine ⟨(List.range len).map q, ⟨some a, cap, a.block, a.off, by rw [hlen], fun h0 => by rw [← hsp (by omega)], fun j hj => ?_⟩, fun y hy => ?_⟩
    · rw [hget j hj]
      rw [hlen] at hj
      obtain ⟨_, k0, k1, sv, k2, k3⟩ := hq j (by omega)
      have e : ∀ r, a.add r = ⟨a.block, a.off + r, none⟩ := fun r => by
        rw [hsp (by omega)]
        unfold Addr.add
        split <;> simp_all
      rw [e] at k0 k1 k2
      exact ⟨k0, by rw [Nat.add_assoc]; exact k1, sv, by rw [Nat.add_assoc]; exact k2, k3⟩
    · obtain ⟨i, hi, rfl⟩ := List.mem_map.1 hy
      exact (hq i (by have := List.mem_range.1 hi; omega)).1
end

end Go.Proofs.YbulkcbpgFmt
