/-
  THE PROOF OF 'Rows.LawS3938CBuiltSaid': the frame after the guide's shell for slices: a slice of bytes, an array of four bytes by value, a byte, a slice of bytes.
-/
import Derived.Test.YbulkccnmRows
import Derived.Test.YbulkccnmBuilt
import Derived.WalkKit
import Derived.ProofKit
import Derived.OpenShut
import Derived.ShutString
import Derived.ChangeOld
import Derived.Below
namespace Go.Proofs.Ybulkccnm.lawS3938CBuilt
open Go.ChangeShapes Go.WideShapes Go.ChangeAt Go.RowKit
set_option linter.unusedVariables false

theorem own : ownKnob Yba.prog.godebug = none := by kernel_rfl
theorem laidOut : laidOutB Yba.prog = true := by kernel_rfl

/-- What the walk is told of a slice of bytes that came in. -/
def IsRow (w : World) (a : Option Addr) (len cap : Nat) (zs : List Int) : Prop :=
  (a = none ∧ len = 0 ∧ cap = 0 ∧ zs = []) ∨
  ∃ x, a = some x ∧ len ≤ zs.length ∧ (∀ i, i < zs.length → w.cell? (x.add i) = some (.int .u8 (zs.getD i 0))) ∧ ∀ n ∈ zs, (Lit.int .u8 n).wf = true

theorem IsRow.src {w : World} {a : Option Addr} {len cap : Nat} {zs : List Int} (h : IsRow w a len cap zs) : Walks.SrcIs w (.slice a len cap) len (zs.take len) := by
  rcases h with ⟨rfl, rfl, rfl, rfl⟩ | ⟨x, rfl, hl, hc, _⟩
  · exact .inl ⟨rfl, rfl, rfl⟩
  · refine .inr ⟨x, cap, rfl, by simp; omega, fun j hj => ?_⟩
    rw [hc j (by omega), List.getD_eq_getElem?_getD, List.getD_eq_getElem?_getD, List.getElem?_take, if_pos hj]

theorem IsRow.len {w : World} {a : Option Addr} {len cap : Nat} {zs : List Int} (h : IsRow w a len cap zs) : (zs.take len).length = len := by
  rcases h with ⟨rfl, rfl, rfl, rfl⟩ | ⟨x, rfl, hl, hc, _⟩
  · rfl
  · simp; omega

theorem IsRow.bd {w : World} {a : Option Addr} {len cap : Nat} {zs : List Int} (h : IsRow w a len cap zs) : ∀ z ∈ zs.take len, 0 ≤ z ∧ z ≤ 255 := by
  rcases h with ⟨rfl, rfl, rfl, rfl⟩ | ⟨x, rfl, hl, hc, hw⟩
  · intro z hz; simp at hz
  · intro z hz
    exact bounds_u8 (hw z (List.mem_of_mem_take hz))

theorem walk (a0 a3 : Option Addr) (len0 cap0 len3 cap3 : Nat) (z0 z3 : List Int) (x0 x1 x2 x3 c : Int) (w : World) (w0 : IsRow w a0 len0 cap0 z0) (w3 : IsRow w a3 len3 cap3 z3)
    (b0 : (Lit.int .u8 x0).wf = true) (b1 : (Lit.int .u8 x1).wf = true) (b2 : (Lit.int .u8 x2).wf = true) (b3 : (Lit.int .u8 x3).wf = true) (bc : (Lit.int .u8 c).wf = true) :
    Calls Yba.prog 4 #[.slice a0 len0 cap0, .agg #[.int .u8 x0, .int .u8 x1, .int .u8 x2, .int .u8 x3], .int .u8 c, .slice a3 len3 cap3] w fun e w' => e = .returned (.bool true) ∧ Below w.heap.size w w' := by
  by_cases hbig : 512 < len0 ∨ 512 < len3
  · exact Walks.built_big a0 a3 len0 len3 cap0 cap3 x0 x1 x2 x3 c w hbig
  · have hc := bounds_u8 bc
    refine Walks.built_any a0 a3 len0 len3 cap0 cap3 (z0.take len0) (z3.take len3) x0 x1 x2 x3 c w (by omega) (by omega) w0.src w3.src w0.len w3.len w0.bd w3.bd hc.1 hc.2 _ rfl (fun j => ?_)
    have g0 := bounds_u8 b0
    have g1 := bounds_u8 b1
    have g2 := bounds_u8 b2
    have g3 := bounds_u8 b3
    match j with
    | 0 => exact g0
    | 1 => exact g1
    | 2 => exact g2
    | 3 => exact g3
    | j + 4 => simp

/-- An array of four bytes by value, opened. -/
theorem open_arr {H : Type} {enc : TypeId × Value → H} {W : World} {base : Nat} {v : Value} {d : DataW H} {ps : List MemPlace} (hval : Value.okWide Yba.prog W .any base 35 v) (h : DataW.Trod enc Yba.prog W 0 (fun _ => true) true 35 v d ps) :
    ∃ x0 x1 x2 x3, v = .agg #[.int .u8 x0, .int .u8 x1, .int .u8 x2, .int .u8 x3] ∧ (Lit.int .u8 x0).wf = true ∧ (Lit.int .u8 x1).wf = true ∧ (Lit.int .u8 x2).wf = true ∧ (Lit.int .u8 x3).wf = true := by
  simp only [Value.okWide, Yba.underlying35] at hval
  obtain ⟨cs, rfl, hsz, _⟩ := hval
  obtain ⟨fuel, hf⟩ := h
  have c5 : Yba.prog.cellsOf 5 = 1 := by kernel_rfl
  have c35 : Yba.prog.cellsOf 35 = 4 := by kernel_rfl
  rw [c35] at hsz
  obtain ⟨xs, m, _, _, _, hl, hel⟩ := DataW.trod_array Yba.underlying35 hf
  obtain ⟨l⟩ := cs
  match l, hsz with
  | [c0, c1, c2, c3], _ =>
    have e0 := hel 0 (by omega)
    have e1 := hel 1 (by omega)
    have e2 := hel 2 (by omega)
    have e3 := hel 3 (by omega)
    rw [c5] at e0 e1 e2 e3
    rw [List.getElem?_eq_getElem (by omega)] at e0 e1 e2 e3
    simp only [Value.cells] at e0 e1 e2 e3
    obtain ⟨x0, f0, _, w0⟩ := DataW.trod_int Yba.underlying5 e0
    obtain ⟨x1, f1, _, w1⟩ := DataW.trod_int Yba.underlying5 e1
    obtain ⟨x2, f2, _, w2⟩ := DataW.trod_int Yba.underlying5 e2
    obtain ⟨x3, f3, _, w3⟩ := DataW.trod_int Yba.underlying5 e3
    simp at f0 f1 f2 f3
    subst f0 f1 f2 f3
    exact ⟨x0, x1, x2, x3, rfl, w0, w1, w2, w3⟩

theorem open_row {H : Type} {enc : TypeId × Value → H} {W : World} {a : Option Addr} {len cap : Nat} {d : DataW H} {ps : List MemPlace} (h : DataW.Trod enc Yba.prog W 0 (fun _ => true) true 22 (.slice a len cap) d ps) : ∃ zs, IsRow W a len cap zs := by
  obtain ⟨fuel, hf⟩ := h
  rcases open_ints Yba.underlying22 Yba.underlying5 (by kernel_rfl) hf with ⟨hcs, _⟩ | ⟨x, l, c, zs, hcs, _, hl, hm, hz, _, hcell, hwz⟩
  · simp [Value.cells] at hcs
    obtain ⟨rfl, rfl, rfl⟩ := hcs
    exact ⟨[], .inl ⟨rfl, rfl, rfl, rfl⟩⟩
  · simp [Value.cells] at hcs
    obtain ⟨rfl, rfl, rfl⟩ := hcs
    exact ⟨zs, .inr ⟨_, rfl, by simp at hz; omega, hcell, hwz⟩⟩

set_option maxRecDepth 100000 in
theorem lifted (os : Os) (started : os.Started) (H : Type) (enc : TypeId × Value → H) :
    ReturnsInHanded {} Yba.checked os 4 .any (Rows.lawS3938CBuiltSpec.pre6 enc Yba.prog Yba.f4 Rows.lawS3938CBuiltRow.domain false) (Rows.lawS3938CBuiltSpec.post enc Yba.prog Yba.f4 false true false false) := by
  refine returnsInHanded_of_change (C := Yba.checked) own started (by kernel_rfl) Yba.func4
    (ChangeSpec.witness6 (enc := enc) (C := Yba.checked) false ⟨#[], #[.slice none 0 0, .agg #[.int .u8 0, .int .u8 0, .int .u8 0, .int .u8 0], .int .u8 0, .slice none 0 0], []⟩ 8 (by kernel_rfl) (by kernel_rfl) (by kernel_rfl) (by kernel_rfl)) ?_
  intro W base args ds gs before hval0 hW hcnd _
  have hval : ∀ (j : Nat) t v, Yba.f4.params[j]? = some t → args[j]? = some v → Value.okWide Yba.prog W .any base t v := hval0
  have hW' := hW
  obtain ⟨p, q, hA0, hV, rfl, hfz, hnd⟩ := hW
  have hA : DataW.TrodAll enc Yba.prog W 0 (fun _ => true) true Yba.f4.params.toList args.toList ds p := hA0
  rw [Yba.params4] at hA hval
  obtain ⟨v0, vs0, d0, ds0, p0, q0, hargs, rfl, rfl, h0, r0⟩ := trodAll_cons hA
  obtain ⟨v1, vs1, d1, ds1, p1, q1, rfl, rfl, rfl, h1, r1⟩ := trodAll_cons r0
  obtain ⟨v2, vs2, d2, ds2, p2, q2, rfl, rfl, rfl, h2, r2⟩ := trodAll_cons r1
  obtain ⟨v3, vs3, d3, ds3, p3, q3, rfl, rfl, rfl, h3, r3⟩ := trodAll_cons r2
  obtain ⟨rfl, rfl, rfl⟩ := trodAll_nil r3
  obtain rfl : args = #[v0, v1, v2, v3] := by cases args; simp_all
  obtain ⟨rfl, rfl⟩ := trodVars_none hV
  obtain ⟨a0, len0, cap0, rfl⟩ := okWide_slice Yba.underlying22 (hval 0 22 v0 rfl rfl)
  obtain ⟨a3, len3, cap3, rfl⟩ := okWide_slice Yba.underlying22 (hval 3 22 v3 rfl rfl)
  have lt0 : ∀ x ∈ p0, x.block < W.heap.size := by obtain ⟨m, hm⟩ := h0; exact DataW.trod_lt m _ _ _ hm
  have lt1 : ∀ x ∈ p1, x.block < W.heap.size := by obtain ⟨m, hm⟩ := h1; exact DataW.trod_lt m _ _ _ hm
  have lt3 : ∀ x ∈ p3, x.block < W.heap.size := by obtain ⟨m, hm⟩ := h3; exact DataW.trod_lt m _ _ _ hm
  obtain ⟨z0, w0⟩ := open_row h0
  obtain ⟨z3, w3⟩ := open_row h3
  obtain ⟨x0, x1, x2, x3, rfl, b0, b1, b2, b3⟩ := open_arr (hval 1 35 v1 rfl rfl) h1
  obtain ⟨a2, rfl, rfl, rfl, w2⟩ := open_int Yba.underlying5 (hval 2 5 v2 rfl rfl) h2
  clear hA0 hval0
  refine (walk a0 a3 len0 cap0 len3 cap3 z0 z3 x0 x1 x2 x3 a2 W w0 w3 b0 b1 b2 b3 w2).mono fun e W' ⟨he, bel⟩ => ?_
  subst he
  exact ⟨_, rfl, _, _, _, [], _, [], hW', trodAll_mk1 (shut_bool Yba.underlying4 _), (trodAll_cons_mk (Below.trod laidOut (by kernel_rfl) (of_decide_eq_true (by kernel_rfl)) h0 bel lt0) (trodAll_cons_mk (Below.trod laidOut (by kernel_rfl) (of_decide_eq_true (by kernel_rfl)) h1 bel lt1) (trodAll_cons_mk (shut_int Yba.underlying5 w2) (trodAll_cons_mk (Below.trod laidOut (by kernel_rfl) (of_decide_eq_true (by kernel_rfl)) h3 bel lt3) trodAll_mk0)))), rfl, bel.frame _, fun h => by cases h⟩

theorem over : Rows.lawS3938CBuiltRow.holds Yba.pinned (OpenSpec.ofChange Rows.lawS3938CBuiltSpec) :=
  OpenClaim.holds_of_wide 4 Yba.f4 rfl rfl rfl rfl rfl rfl rfl ⟨rfl, rfl, rfl, rfl, rfl⟩ rfl rfl rfl rfl rfl (by kernel_rfl) Yba.func4 (by kernel_rfl)
    (of_decide_eq_true (by kernel_rfl)) (by unfold Func.isWrapper; first | (rw [if_pos (by decide +kernel)]; kernel_rfl) | (rw [if_neg (by decide +kernel)]; exact ⟨rfl, rfl⟩))
    (fun os started H enc _ => lifted os started H enc)

/-- THE STATEMENT -/
theorem proved : Rows.LawS3938CBuiltSaid := over
end Go.Proofs.Ybulkccnm.lawS3938CBuilt
