/-
  Seat b3893aF: the script of a wire text, plainly; the state while the text is built.
-/
import Derived.Test.YbulkcbpgFmtPrior
namespace Go.Proofs.YbulkcbpgFmt
open Go.RowKit Go.Deep
set_option linter.unusedVariables false

/-! ### The script, plainly -/

/-- One step of a script. -/
structure SOp where
  o : Int
  v : Int
  vals : List Int

def SOp.k (x : SOp) : Nat := (x.o % 20).toNat
def SOp.vs (x : SOp) : List Int := x.vals.take 1024

/-- A packed run. -/
def runOf (i : Nat) : List Int → List Int
  | [] => []
  | v :: vs => encV i v ++ runOf i vs

/-- The bytes that a step writes. -/
def chunk (d : Nat) (x : SOp) : List Int :=
  if x.k < 7 then vb (num x.k * 8 + wt x.k) ++ encV x.k x.v
  else if x.k < 14 then vb (num (x.k - 7) * 8 + 2) ++ vb (runOf (x.k - 7) x.vs).length ++ runOf (x.k - 7) x.vs
  else if x.k = 14 then vb 56 ++ vb x.v
  else if x.k = 15 then vb 73 ++ fx x.v 8
  else if x.k = 16 then vb 162 ++ vb x.vs.length ++ x.vs.map (· % 256)
  else if x.k = 17 then vb 8 ++ vb x.v
  else if x.k = 18 then vb 805 ++ fx x.v 4
  else if 0 < d then vb 243 ++ vb 244
  else vb 56 ++ vb 0

/-- What a step means to a message. -/
def eff (d : Nat) (x : SOp) (N : Nat → List Value) : Nat → List Value :=
  if x.k < 7 then put N x.k [val x.k x.v]
  else if x.k < 14 then put N (x.k - 7) (x.vs.map (val (x.k - 7)))
  else put N 7 (bytes (chunk d x))

def chunks (d : Nat) (xs : List SOp) : List Int := xs.flatMap (chunk d)
def effs (d : Nat) (xs : List SOp) (N : Nat → List Value) : Nat → List Value := xs.foldl (fun N x => eff d x N) N

theorem vb_len (x : Int) : (vb x).length ≤ 10 := vbF_len 10 x
theorem encV_len (i : Nat) (v : Int) : (encV i v).length ≤ 10 := by
  unfold encV
  split <;> first | (rw [fx_len]; omega) | exact vb_len v
theorem runOf_len (i : Nat) (vs : List Int) : (runOf i vs).length ≤ 10 * vs.length := by
  induction vs with
  | nil => simp [runOf]
  | cons v vs ih => simp only [runOf, List.length_append, List.length_cons]; have := encV_len i v; omega
theorem vs_len (x : SOp) : x.vs.length ≤ 1024 := by unfold SOp.vs; simp; omega

theorem chunk_len (d : Nat) (x : SOp) : (chunk d x).length ≤ 10300 := by
  have h1 := vs_len x
  have h2 := runOf_len (x.k - 7) x.vs
  have h3 := encV_len x.k x.v
  have hv := fun y => vb_len y
  unfold chunk
  repeat' split
  all_goals simp only [List.length_append, List.length_map, fx_len]
  all_goals first
    | (have := hv (num x.k * 8 + wt x.k); omega)
    | (have a := hv (num (x.k - 7) * 8 + 2); have b := hv (runOf (x.k - 7) x.vs).length; omega)
    | (have a := hv 56; have b := hv x.v; omega)
    | (have a := hv 73; omega)
    | (have a := hv 162; have b := hv x.vs.length; omega)
    | (have a := hv 8; have b := hv x.v; omega)
    | (have a := hv 805; omega)
    | (have a := hv 243; have b := hv 244; omega)
    | (have a := hv 56; have b := hv 0; omega)

theorem put_len (N : Nat → List Value) (i : Nat) (ys : List Value) (j : Nat) : (put N i ys j).length ≤ (N j).length + ys.length := by
  unfold put setF
  split
  · rename_i e; subst e; simp
  · omega

theorem eff_len (d : Nat) (x : SOp) (N : Nat → List Value) (j : Nat) : (eff d x N j).length ≤ (N j).length + 10300 := by
  have h1 := vs_len x
  have h2 := chunk_len d x
  unfold eff
  split
  · have := put_len N x.k [val x.k x.v] j; simp at this; omega
  · split
    · have := put_len N (x.k - 7) (x.vs.map (val (x.k - 7))) j; simp at this; omega
    · have := put_len N 7 (bytes (chunk d x)) j; rw [bytes_length] at this; omega

theorem chunks_len (d : Nat) (xs : List SOp) : (chunks d xs).length ≤ 10300 * xs.length := by
  induction xs with
  | nil => simp [chunks]
  | cons x xs ih => simp only [chunks, List.flatMap_cons, List.length_append, List.length_cons] at ih ⊢; have := chunk_len d x; omega

theorem effs_len (d : Nat) (xs : List SOp) (N : Nat → List Value) (j : Nat) : (effs d xs N j).length ≤ (N j).length + 10300 * xs.length := by
  induction xs generalizing N with
  | nil => simp [effs]
  | cons x xs ih =>
    have h1 := ih (eff d x N)
    have h2 := eff_len d x N j
    simp only [effs, List.foldl_cons, List.length_cons] at h1 ⊢
    omega

theorem chunks_step (d : Nat) (xs : List SOp) (k : Nat) (hk : k < xs.length) : chunks d (xs.take (k + 1)) = chunks d (xs.take k) ++ chunk d xs[k] := by
  rw [List.take_succ_eq_append_getElem hk]; simp only [chunks, List.flatMap_append, List.flatMap_cons, List.flatMap_nil, List.append_nil]
theorem effs_step (d : Nat) (xs : List SOp) (k : Nat) (hk : k < xs.length) (N : Nat → List Value) : effs d (xs.take (k + 1)) N = eff d xs[k] (effs d (xs.take k) N) := by
  rw [List.take_succ_eq_append_getElem hk]; simp only [effs, List.foldl_append, List.foldl_cons, List.foldl_nil]

/-! ### The state while the text is built -/

structure BSt (w0 w : World) (q : Nat) (U0 U : Nat → Value) (N : Nat → List Value) (vb : Value) (L : List Int) : Prop where
  msg : MsgAt w q N U
  foot : ∀ k, Foot q U k → Foot q U0 k ∨ w0.heap.size ≤ k
  chg : Chg (Foot q U0) w0 w
  row : BRow w vb L
  fresh : ∀ k, vb.ownBlock = some k → w0.heap.size ≤ k ∧ ¬ Foot q U k

section
variable {w0 w w' : World} {q : Nat} {U0 U : Nat → Value} {N N' : Nat → List Value} {v v' : Value} {L L' : List Int}

theorem BSt.start (h : MsgAt w q N U) : BSt w w q U U N (.slice none 0 0) [] :=
  ⟨h, fun _ hk => .inl hk, Chg.refl _ _, World.ownsRow_nil w 0 5 1, fun k hk => by simp [Value.ownBlock] at hk⟩

theorem BSt.rowTo (h : BSt w0 w q U0 U N v L) (hR : RowTo w w' v v' L') : BSt w0 w' q U0 U N v' L' := by
  have hs := h.chg.size
  refine ⟨h.msg.chg hR.chg (fun k hk hv => (h.fresh k hv).2 hk), h.foot, h.chg.trans hR.chg (fun b hb hv => by have := (h.fresh b hv).1; omega), hR.row, fun k hk => ?_⟩
  rcases hR.lies k hk with e | e
  · exact h.fresh k e
  · exact ⟨by omega, fun hf => by have := h.msg.foot_lt hf; omega⟩

theorem BSt.upd (h : BSt w0 w q U0 U N v L) (hu : Upd w w' q U N') : ∃ U', BSt w0 w' q U0 U' N' v L := by
  obtain ⟨U', hm, hc, hf⟩ := hu
  have hs := h.chg.size
  refine ⟨U', hm, fun k hk => ?_, h.chg.trans hc (fun b hb hF => ?_), h.row.of_block (fun k hk => hc.block k (h.row.lt hk) (h.fresh k hk).2), fun k hk => ⟨(h.fresh k hk).1, fun hF => ?_⟩⟩
  · rcases hf k hk with e | e
    · exact h.foot k e
    · exact .inr (by omega)
  · rcases h.foot b hF with e | e
    · exact e
    · omega
  · rcases hf k hF with e | e
    · exact (h.fresh k hk).2 e
    · have := h.row.lt hk; omega

theorem BSt.alloc (h : BSt w0 w q U0 U N v L) (o : Obj) : BSt w0 (w.alloc o) q U0 U N v L :=
  ⟨h.msg.chg (F := No) ((Chg.refl _ _).alloc o) (fun _ _ hf => hf), h.foot, h.chg.alloc o, h.row.of_block (fun _ hk => blk_alloc_lt _ _ _ (h.row.lt hk)), h.fresh⟩

/-- An inner stretch that goes on from here, with a row of its own: ours is as it was, and the inner row too is there. -/
theorem BSt.inner {w1 w2 : World} {U1 U2 : Nat → Value} {N1 N2 : Nat → List Value} {vr : Value} {R : List Int} (h : BSt w0 w1 q U0 U1 N1 v L) (k : BSt w1 w2 q U1 U2 N2 vr R) : BSt w0 w2 q U0 U2 N2 v L := by
  have hs := h.chg.size
  refine ⟨k.msg, fun b hb => ?_, h.chg.trans k.chg (fun b hb hF => ?_), h.row.of_block (fun b hb => k.chg.block b (h.row.lt hb) (h.fresh b hb).2), fun b hb => ⟨(h.fresh b hb).1, fun hF => ?_⟩⟩
  · rcases k.foot b hb with e | e
    · exact h.foot b e
    · exact .inr (by omega)
  · rcases h.foot b hF with e | e
    · exact e
    · omega
  · rcases k.foot b hF with e | e
    · exact (h.fresh b hb).2 e
    · have := h.row.lt hb; omega
end

end Go.Proofs.YbulkcbpgFmt
