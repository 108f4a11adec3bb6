/-
  Seat b3893aF: LawS3893BDecodeToldSaid.
-/
import Derived.Test.YbulkcbpgFmtLad
import Derived.Test.YbulkcbpgFmtOpn
import Derived.Test.YbulkcbpgFmtDec
import Derived.Deep.DeepWitnessRef
import Derived.SevenTiedAt
import Derived.OpenShut
import Derived.Stop.JoinedAt
namespace Go.Proofs.YbulkcbpgFmt
open Go.ChangeShapes Go.WideShapes Go.ChangeAt Go.RowKit
open Go.Extern.Stop Go.Stop Go.Extern
set_option linter.unusedVariables false

theorem six_vars {H : Type} {enc : TypeId × Value → H} {W : World} {sp : Nat → Bool} {n1 n2 n3 n4 n5 n6 : String} {gs : List (DataW H)} {q : List MemPlace}
    (h : DataW.TrodVars enc Ybaf.prog W sp [n1, n2, n3, n4, n5, n6] gs q) : ∃ g1 g2 g3 g4 g5 g6, gs = [g1, g2, g3, g4, g5, g6] := by
  rcases gs with _ | ⟨g1, gs⟩
  · exact h.elim
  obtain ⟨_, _, _, _, _, _, _, _, _, _, h, _⟩ := h
  rcases gs with _ | ⟨g2, gs⟩
  · exact h.elim
  obtain ⟨_, _, _, _, _, _, _, _, _, _, h, _⟩ := h
  rcases gs with _ | ⟨g3, gs⟩
  · exact h.elim
  obtain ⟨_, _, _, _, _, _, _, _, _, _, h, _⟩ := h
  rcases gs with _ | ⟨g4, gs⟩
  · exact h.elim
  obtain ⟨_, _, _, _, _, _, _, _, _, _, h, _⟩ := h
  rcases gs with _ | ⟨g5, gs⟩
  · exact h.elim
  obtain ⟨_, _, _, _, _, _, _, _, _, _, h, _⟩ := h
  rcases gs with _ | ⟨g6, gs⟩
  · exact h.elim
  obtain ⟨_, _, _, _, _, _, _, _, _, _, h, _⟩ := h
  rcases gs with _ | ⟨g7, gs⟩
  · exact ⟨g1, g2, g3, g4, g5, g6, rfl⟩
  · exact h.elim

set_option maxRecDepth 100000 in
set_option maxHeartbeats 2000000 in
theorem decode_lifted (os : Os) (started : os.Started) (H : Type) (enc : TypeId × Value → H) :
    ReturnsInTold none {} Ybaf.checked os 3 .any Input.okWide (specD.preRow enc Ybaf.prog Ybaf.f3 Rows.lawS3893BDecodeRow.domain false Rows.lawS3893BDecodeRow.laid) (fun F => (specD.at F).post enc Ybaf.prog Ybaf.f3 false true false false) (aloneAtReturn Ybaf.prog) nothingAlways := by
  refine returnsInTold_of_row (C := Ybaf.checked) (s := specD) (by kernel_rfl) own started (by kernel_rfl) Ybaf.func3
    (OpenSpec.witness_stopped_atRef (enc := enc) (C := Ybaf.checked) false (laidWorld os) #[.slice none 0 0, .slice none 0 0, .slice none 0 0, .int .u8 0] rfl (by kernel_rfl) (by kernel_rfl) (by kernel_rfl) (witness_row os enc)) ?_
  intro F W base args ds gs before _ hF hval0 hW hcnd0 _ _ hL _
  have hval : ∀ (j : Nat) t v, Ybaf.f3.params[j]? = some t → args[j]? = some v → Value.okWide Ybaf.prog W .any base t v := hval0
  have hW' := hW
  obtain ⟨p, q, hA0, hV0, rfl, _, _⟩ := hW
  have hA : DataW.TrodAll enc Ybaf.prog W 0 (fun _ => true) true Ybaf.f3.params.toList args.toList ds p := hA0
  have hV : DataW.TrodVars enc Ybaf.prog W (fun _ => true) Rows.lawS3893BDecodeSpec.vars gs q := hV0
  rw [Ybaf.params3] at hA hval
  obtain ⟨v0, vs0, d0, ds0, p0, q0, hargs, rfl, rfl, h0, r0⟩ := trodAll_cons hA
  obtain ⟨v1, vs1, d1, ds1, p1, q1, rfl, rfl, rfl, h1, r1⟩ := trodAll_cons r0
  obtain ⟨v2, vs2, d2, ds2, p2, q2, rfl, rfl, rfl, h2, r2⟩ := trodAll_cons r1
  obtain ⟨v3, vs3, d3, ds3, p3, q3, rfl, rfl, rfl, h3, r3⟩ := trodAll_cons r2
  obtain ⟨rfl, rfl, rfl⟩ := trodAll_nil r3
  obtain rfl : args = #[v0, v1, v2, v3] := by cases args; simp_all
  obtain ⟨g1, g2, g3, g4, g5, g6, rfl⟩ := six_vars hV
  have lt0 : ∀ x ∈ p0, x.block < W.heap.size := by obtain ⟨m, hm⟩ := h0; exact DataW.trod_lt m _ _ _ hm
  have lt1 : ∀ x ∈ p1, x.block < W.heap.size := by obtain ⟨m, hm⟩ := h1; exact DataW.trod_lt m _ _ _ hm
  have lt2 : ∀ x ∈ p2, x.block < W.heap.size := by obtain ⟨m, hm⟩ := h2; exact DataW.trod_lt m _ _ _ hm
  obtain ⟨a0, l0, c0, rfl⟩ := okWide_slice Ybaf.underlying22 (hval 0 22 v0 rfl rfl)
  obtain ⟨a1, l1, c1, rfl⟩ := okWide_slice Ybaf.underlying23 (hval 1 23 v1 rfl rfl)
  obtain ⟨a2, l2, c2, rfl⟩ := okWide_slice Ybaf.underlying24 (hval 2 24 v2 rfl rfl)
  obtain ⟨t, rfl, rfl, rfl, wt⟩ := open_int Ybaf.underlying5 (hval 3 5 v3 rfl rfl) h3
  obtain ⟨ops, hops, hok⟩ : ∃ ops : List SOp, OpsAt W (.slice a0 l0 c0) ops ∧ ∀ y ∈ ops, okOp y := by
    obtain ⟨fuel, hf⟩ := h0
    exact open_ops hf
  obtain ⟨ps, hps, _⟩ : ∃ zs : List Int, SrcV W (.slice a1 l1 c1) (zs.map (Value.int .u64)) ∧ ∀ n ∈ zs, (Lit.int .u64 n).wf = true := by
    obtain ⟨fuel, hf⟩ := h1
    exact open_src Ybaf.underlying23 Ybaf.underlying34 cells34 hf
  obtain ⟨pu, hpu, _⟩ : ∃ zs : List Int, SrcV W (.slice a2 l2 c2) (zs.map (Value.int .u8)) ∧ ∀ n ∈ zs, (Lit.int .u8 n).wf = true := by
    obtain ⟨fuel, hf⟩ := h2
    exact open_src Ybaf.underlying24 Ybaf.underlying5 cells5 hf
  obtain ⟨ht0, ht1⟩ := wf_u8 wt
  clear hA0 hval0 hV0
  refine (decode_any _ _ _ ops ps pu t W hops hps hpu hok ht0 ht1).mono fun e W' ⟨he, hch⟩ => ?_
  subst he
  have bel : Below W.heap.size W W' := hch.below (Nat.le_refl _) (fun _ _ hf => hf)
  exact ⟨_, rfl, _, _, _, [], _, _, hW', trodAll_mk1 (shut_bool Ybaf.underlying4 _), trodAll_cons_mk (Below.trod laidOut (by kernel_rfl) (of_decide_eq_true (by kernel_rfl)) h0 bel lt0) (trodAll_cons_mk (Below.trod laidOut (by kernel_rfl) (of_decide_eq_true (by kernel_rfl)) h1 bel lt1) (trodAll_cons_mk (Below.trod laidOut (by kernel_rfl) (of_decide_eq_true (by kernel_rfl)) h2 bel lt2) (trodAll_cons_mk (shut_int Ybaf.underlying5 wt) trodAll_mk0))), Below.trodVars laidOut bel (by kernel_rfl) hV, bel.frame _, fun h => by cases h⟩

theorem stops_eq : Ybaf.pinned.checked.prog.stops = ["fmt.errorf, its operands' methods called", "fmt.Sprintf"] := by kernel_rfl
theorem stopKnobs_eq : Ybaf.pinned.checked.prog.stopKnobs = [] := by kernel_rfl
theorem quiet_all (os : Os) : Stop.quiet Ybaf.pinned.checked.prog os := by
  intro k hk
  rw [stopKnobs_eq] at hk
  cases hk

/-- THE STATEMENT -/
theorem decode_proved : Rows.LawS3893BDecodeToldSaid :=
  Claim7.holds_of_told_tied_any_at .later 3 Ybaf.f3 "fmt.errorf, its operands' methods called" ["fmt.Sprintf"] [] _ _ _ _ _ (by kernel_rfl) rfl rfl rfl laidOut (by kernel_rfl) rfl ⟨rfl, rfl, rfl, rfl, rfl, rfl, rfl⟩ rfl rfl (by kernel_rfl) (by kernel_rfl) Ybaf.func3 (by kernel_rfl)
    (of_decide_eq_true (by kernel_rfl)) (by unfold Func.isWrapper; first | (rw [if_pos (by decide +kernel)]; kernel_rfl) | (rw [if_neg (by decide +kernel)]; exact ⟨rfl, rfl⟩)) stops_eq.symm rfl stopKnobs_eq.symm (by kernel_rfl)
    (by kernel_rfl) (by kernel_rfl) (by kernel_rfl) (by kernel_rfl) (by kernel_rfl) (by kernel_rfl) (by kernel_rfl) (by kernel_rfl) (by kernel_rfl) rfl (by kernel_rfl) rfl rfl
    rfl rfl
    rfl (by kernel_rfl) (by kernel_rfl) (by kernel_rfl) (by decide) (by kernel_rfl) lawS3893BDecode_row_tie
    (OpenClaim.moreEntering_of (by kernel_rfl) (by kernel_rfl) (by kernel_rfl) (by kernel_rfl) (by kernel_rfl) (by kernel_rfl) (by kernel_rfl) (by kernel_rfl) (by kernel_rfl) (by kernel_rfl))
    ⟨_, WideRow.started_initial, quiet_all _⟩
    (fun os started _ H enc _ => decode_lifted os started H enc)

end Go.Proofs.YbulkcbpgFmt
