/-
  Seat b3893aF: LawS3893BTruncatedToldSaid.
-/
import Derived.Test.YbulkcbpgFmtTr0
import Derived.Test.YbulkcbpgFmtTr1
import Derived.Test.YbulkcbpgFmtTr2
import Derived.Test.YbulkcbpgFmtTr3
import Derived.Test.YbulkcbpgFmtDecodeProof
import Derived.Stop.LaidErr
namespace Go.Proofs.YbulkcbpgFmt
open Go.ChangeShapes Go.WideShapes Go.ChangeAt Go.RowKit
open Go.Extern.Stop Go.Stop Go.Extern
set_option linter.unusedVariables false

set_option maxHeartbeats 2000000 in
theorem trunc_any {F : Interp} {ae : Addr} {s : ByteArray} (v0 v1 : Value) (ops : List SOp) (ps : List Int) (t k y : Int) (w : World) (hSen : Sen F ae s w) (h0 : OpsAt w v0 ops) (h1 : SrcV w v1 (ps.map (Value.int .u64))) (hok : ∀ x ∈ ops, okOp x)
    (ht0 : 0 ≤ t) (ht1 : t ≤ 255) (hk0 : 0 ≤ k) (hk1 : k ≤ 255) (hy0 : 0 ≤ y) (hy1 : y < 18446744073709551616) :
    Calls Ybaf.prog 4 #[v0, v1, .int .u8 t, .int .u8 k, .int .u64 y] w fun e w' => e = .returned (.bool true) ∧ Chg No w w' := by
  by_cases hs : ops.length ≤ 1024 ∧ ps.length ≤ 1024
  · obtain ⟨hs0, hs1⟩ := hs
    have h4 : t % 4 = 0 ∨ t % 4 = 1 ∨ t % 4 = 2 ∨ t % 4 = 3 := by omega
    rcases h4 with ht | ht | ht | ht
    · exact trunc_0 v0 v1 ops ps t k y w hSen h0 h1 hok hs0 hs1 ht0 ht1 ht hk0 hk1 hy0 hy1
    · exact trunc_1 v0 v1 ops ps t k y w hSen h0 h1 hok hs0 hs1 ht0 ht1 ht hk0 hk1 hy0 hy1
    · exact trunc_2 v0 v1 ops ps t k y w hSen h0 h1 hok hs0 hs1 ht0 ht1 ht hk0 hk1 hy0 hy1
    · exact trunc_3 v0 v1 ops ps t k y w hSen h0 h1 hok hs0 hs1 ht0 ht1 ht hk0 hk1 hy0 hy1
  · obtain ⟨a0, c0, b0, off0, e0, _⟩ := id h0
    obtain ⟨a1, c1, b1, off1, e1, _⟩ := h1.form
    rw [List.length_map] at e1
    subst e0 e1
    by_cases z0 : (1024 : Int) < (ops.length : Int)
    · go_enter Ybaf.func4, Ybaf.ntmps4
      go_wp2
      go_ret
      exact ⟨rfl, Chg.refl _ _⟩
    · have z1 : (1024 : Int) < (ps.length : Int) := by omega
      go_enter Ybaf.func4, Ybaf.ntmps4
      go_wp2
      go_ret
      exact ⟨rfl, Chg.refl _ _⟩

theorem gT : Ybaf.prog.globalNamed "example.com/wiregen/wiregen.ErrTruncated" = some 0 := by kernel_rfl
theorem gTType : (Ybaf.prog.globals[0]?).map (·.type) = some 30 := by kernel_rfl
theorem cells114 : Ybaf.prog.cellsOf 114 = 1 := by kernel_rfl
theorem cells9 : Ybaf.prog.cellsOf 9 = 1 := by kernel_rfl
theorem star : "*" ++ "errors.errorString" = "*errors.errorString" := by decide
theorem row112 (u : TypeId) (h : Ybaf.prog.typeName? 3 u = some "*errors.errorString") : u = 112 :=
  typeName_ptr_named (nm := "errors.errorString") (by rw [star]; kernel_rfl) (by kernel_rfl) (by decide) u (by rw [star]; exact h)

theorem sen_of_laid {F : Interp} {W : World} (hF : F.answers W.tape) (hL : laidMet Ybaf.prog Rows.lawS3893BTruncatedRow.laid W) : ∃ a s, Sen F a s W := by
  obtain ⟨a, s, hv, hc, _, _⟩ := laid_sentinel hL gT gTType Ybaf.underlying30 row112 Ybaf.underlying112 Ybaf.underlying114 rfl rfl Ybaf.underlying9 cells114 cells9
  exact ⟨a, s, hF, by simpa using World.var?_cell gT hv 0, hc⟩

noncomputable abbrev specT : OpenSpec := OpenSpec.ofChange Rows.lawS3893BTruncatedSpec

set_option maxRecDepth 1000000 in
theorem witness_rowT (os : Os) {H : Type} (enc : TypeId × Value → H) :
    specT.preRow enc Ybaf.prog Ybaf.f4 Rows.lawS3893BTruncatedRow.domain false Rows.lawS3893BTruncatedRow.laid ((laidWorld os).forCall (fun _ _ => 0) ⟨#[], #[.slice none 0 0, .slice none 0 0, .int .u8 0, .int .u8 0, .int .u64 0], []⟩).memory #[.slice none 0 0, .slice none 0 0, .int .u8 0, .int .u8 0, .int .u64 0] := by
  have hw : (DataW.whole enc Ybaf.prog ((laidWorld os).forCall (fun _ _ => 0) ⟨#[], #[.slice none 0 0, .slice none 0 0, .int .u8 0, .int .u8 0, .int .u64 0], []⟩).memory Ybaf.f4.params.toList specT.vars false #[Value.slice none 0 0, Value.slice none 0 0, Value.int .u8 0, Value.int .u8 0, Value.int .u64 0].toList 10).map (fun x => (x.1, x.2.1)) =
      some ([.nil, .nil, .lit (.int .u8 0), .lit (.int .u8 0), .lit (.int .u64 0)], [.held (enc (112, .pointer (some ⟨N0 + 0, 0, none⟩))), .held (enc (112, .pointer (some ⟨N0 + 5, 0, none⟩))), .held (enc (112, .pointer (some ⟨N0 + 4, 0, none⟩))), .held (enc (112, .pointer (some ⟨N0 + 2, 0, none⟩))), .held (enc (112, .pointer (some ⟨N0 + 1, 0, none⟩))), .held (enc (112, .pointer (some ⟨N0 + 3, 0, none⟩)))]) := by kernel_rfl
  obtain ⟨⟨x1, x2, x3⟩, hx, hx1⟩ := Option.map_eq_some_iff.1 hw
  simp only [Prod.mk.injEq] at hx1
  obtain ⟨rfl, rfl⟩ := hx1
  exact OpenSpec.preRow_of_cond 10 hx (by kernel_rfl) (fun k hk => by cases hk) (by kernel_rfl) (laid_met os _)

set_option maxRecDepth 100000 in
set_option maxHeartbeats 2000000 in
theorem truncated_lifted (os : Os) (started : os.Started) (H : Type) (enc : TypeId × Value → H) :
    ReturnsInTold none {} Ybaf.checked os 4 .any Input.okWide (specT.preRow enc Ybaf.prog Ybaf.f4 Rows.lawS3893BTruncatedRow.domain false Rows.lawS3893BTruncatedRow.laid) (fun F => (specT.at F).post enc Ybaf.prog Ybaf.f4 false true false false) (aloneAtReturn Ybaf.prog) nothingAlways := by
  refine returnsInTold_of_row (C := Ybaf.checked) (s := specT) (by kernel_rfl) own started (by kernel_rfl) Ybaf.func4
    (OpenSpec.witness_stopped_atRef (enc := enc) (C := Ybaf.checked) false (laidWorld os) #[.slice none 0 0, .slice none 0 0, .int .u8 0, .int .u8 0, .int .u64 0] rfl (by kernel_rfl) (by kernel_rfl) (by kernel_rfl) (witness_rowT os enc)) ?_
  intro F W base args ds gs before _ hF hval0 hW hcnd0 _ _ hL _
  have hval : ∀ (j : Nat) t v, Ybaf.f4.params[j]? = some t → args[j]? = some v → Value.okWide Ybaf.prog W .any base t v := hval0
  have hW' := hW
  obtain ⟨p, q, hA0, hV0, rfl, _, _⟩ := hW
  have hA : DataW.TrodAll enc Ybaf.prog W 0 (fun _ => true) true Ybaf.f4.params.toList args.toList ds p := hA0
  have hV : DataW.TrodVars enc Ybaf.prog W (fun _ => true) Rows.lawS3893BTruncatedSpec.vars gs q := hV0
  rw [Ybaf.params4] at hA hval
  obtain ⟨v0, vs0, d0, ds0, p0, q0, hargs, rfl, rfl, h0, r0⟩ := trodAll_cons hA
  obtain ⟨v1, vs1, d1, ds1, p1, q1, rfl, rfl, rfl, h1, r1⟩ := trodAll_cons r0
  obtain ⟨v2, vs2, d2, ds2, p2, q2, rfl, rfl, rfl, h2, r2⟩ := trodAll_cons r1
  obtain ⟨v3, vs3, d3, ds3, p3, q3, rfl, rfl, rfl, h3, r3⟩ := trodAll_cons r2
  obtain ⟨v4, vs4, d4, ds4, p4, q4, rfl, rfl, rfl, h4, r4⟩ := trodAll_cons r3
  obtain ⟨rfl, rfl, rfl⟩ := trodAll_nil r4
  obtain rfl : args = #[v0, v1, v2, v3, v4] := by cases args; simp_all
  obtain ⟨g1, g2, g3, g4, g5, g6, rfl⟩ := six_vars hV
  have lt0 : ∀ x ∈ p0, x.block < W.heap.size := by obtain ⟨m, hm⟩ := h0; exact DataW.trod_lt m _ _ _ hm
  have lt1 : ∀ x ∈ p1, x.block < W.heap.size := by obtain ⟨m, hm⟩ := h1; exact DataW.trod_lt m _ _ _ hm
  obtain ⟨a0, l0, c0, rfl⟩ := okWide_slice Ybaf.underlying22 (hval 0 22 v0 rfl rfl)
  obtain ⟨a1, l1, c1, rfl⟩ := okWide_slice Ybaf.underlying23 (hval 1 23 v1 rfl rfl)
  obtain ⟨t, rfl, rfl, rfl, wt⟩ := open_int Ybaf.underlying5 (hval 2 5 v2 rfl rfl) h2
  obtain ⟨k, rfl, rfl, rfl, wk⟩ := open_int Ybaf.underlying5 (hval 3 5 v3 rfl rfl) h3
  obtain ⟨y, rfl, rfl, rfl, wy⟩ := open_int Ybaf.underlying34 (hval 4 34 v4 rfl rfl) h4
  obtain ⟨ops, hops, hok⟩ : ∃ ops : List SOp, OpsAt W (.slice a0 l0 c0) ops ∧ ∀ y ∈ ops, okOp y := by
    obtain ⟨fuel, hf⟩ := h0
    exact open_ops hf
  obtain ⟨ps, hps, _⟩ : ∃ zs : List Int, SrcV W (.slice a1 l1 c1) (zs.map (Value.int .u64)) ∧ ∀ n ∈ zs, (Lit.int .u64 n).wf = true := by
    obtain ⟨fuel, hf⟩ := h1
    exact open_src Ybaf.underlying23 Ybaf.underlying34 cells34 hf
  obtain ⟨ht0, ht1⟩ := wf_u8 wt
  obtain ⟨hk0, hk1⟩ := wf_u8 wk
  obtain ⟨hy0, hy1⟩ := wf_u64 wy
  obtain ⟨ae, s, hSen⟩ := sen_of_laid hF hL
  clear hA0 hval0 hV0
  refine (trunc_any _ _ ops ps t k y W hSen hops hps hok ht0 ht1 hk0 hk1 hy0 hy1).mono fun e W' ⟨he, hch⟩ => ?_
  subst he
  have bel : Below W.heap.size W W' := hch.below (Nat.le_refl _) (fun _ _ hf => hf)
  exact ⟨_, rfl, _, _, _, [], _, _, hW', trodAll_mk1 (shut_bool Ybaf.underlying4 _), trodAll_cons_mk (Below.trod laidOut (by kernel_rfl) (of_decide_eq_true (by kernel_rfl)) h0 bel lt0) (trodAll_cons_mk (Below.trod laidOut (by kernel_rfl) (of_decide_eq_true (by kernel_rfl)) h1 bel lt1) (trodAll_cons_mk (shut_int Ybaf.underlying5 wt) (trodAll_cons_mk (shut_int Ybaf.underlying5 wk) (trodAll_cons_mk (shut_int Ybaf.underlying34 wy) trodAll_mk0)))), Below.trodVars laidOut bel (by kernel_rfl) hV, bel.frame _, fun h => by cases h⟩

/-- THE STATEMENT -/
theorem truncated_proved : Rows.LawS3893BTruncatedToldSaid :=
  Claim7.holds_of_told_tied_any_at .later 4 Ybaf.f4 "fmt.errorf, its operands' methods called" ["fmt.Sprintf"] [] _ _ _ _ _ (by kernel_rfl) rfl rfl rfl laidOut (by kernel_rfl) rfl ⟨rfl, rfl, rfl, rfl, rfl, rfl, rfl⟩ rfl rfl (by kernel_rfl) (by kernel_rfl) Ybaf.func4 (by kernel_rfl)
    (of_decide_eq_true (by kernel_rfl)) (by unfold Func.isWrapper; first | (rw [if_pos (by decide +kernel)]; kernel_rfl) | (rw [if_neg (by decide +kernel)]; exact ⟨rfl, rfl⟩)) stops_eq.symm rfl stopKnobs_eq.symm (by kernel_rfl)
    (by kernel_rfl) (by kernel_rfl) (by kernel_rfl) (by kernel_rfl) (by kernel_rfl) (by kernel_rfl) (by kernel_rfl) (by kernel_rfl) (by kernel_rfl) rfl (by kernel_rfl) rfl rfl
    rfl rfl
    rfl (by kernel_rfl) (by kernel_rfl) (by kernel_rfl) (by decide) (by kernel_rfl) lawS3893BTruncated_row_tie
    (OpenClaim.moreEntering_of (by kernel_rfl) (by kernel_rfl) (by kernel_rfl) (by kernel_rfl) (by kernel_rfl) (by kernel_rfl) (by kernel_rfl) (by kernel_rfl) (by kernel_rfl) (by kernel_rfl))
    ⟨_, WideRow.started_initial, quiet_all _⟩
    (fun os started _ H enc _ => truncated_lifted os started H enc)

end Go.Proofs.YbulkcbpgFmt
