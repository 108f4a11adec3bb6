/-
  Seat b3893aF: zzs3893bbuild: the memory facts of a round, and the plain steps.
-/
import Derived.Test.YbulkcbpgFmtScript
import Derived.Deep.RegionLaw
namespace Go.Proofs.YbulkcbpgFmt
open Go.RowKit Go.Deep
set_option linter.unusedVariables false

/-- The script as it lies in memory. -/
def OpsAt (w : World) (v : Value) (ops : List SOp) : Prop :=
  ∃ a c b off, v = .slice a ops.length c ∧ (0 < ops.length → a = some ⟨b, off, none⟩) ∧
    ∀ j (hj : j < ops.length), w.cell? ⟨b, off + j * 3, none⟩ = some (.int .u8 ops[j].o) ∧ w.cell? ⟨b, off + j * 3 + 1, none⟩ = some (.int .u64 ops[j].v) ∧
      ∃ sv, w.cell? ⟨b, off + j * 3 + 2, none⟩ = some sv ∧ SrcV w sv (ops[j].vals.map (Value.int .u64))

structure okOp (x : SOp) : Prop where
  o0 : 0 ≤ x.o
  o1 : x.o ≤ 255
  v0 : 0 ≤ x.v
  v1 : x.v < 18446744073709551616
  vs : ∀ z ∈ x.vals, 0 ≤ z ∧ z < 18446744073709551616

theorem BRow.form {w : World} {v : Value} {L : List Int} (h : BRow w v L) : ∃ a c, v = .slice a L.length c := by
  rcases h.2 with ⟨h1, h2⟩ | ⟨g, cap, cur, hv, _⟩
  · exact ⟨none, 0, by rw [bytes_length] at h2; rw [h1, h2]⟩
  · exact ⟨_, cap, by rw [bytes_length] at hv; exact hv⟩

/-- A block that neither the message nor the text touches. -/
structure Box (w : World) (q : Nat) (U : Nat → Value) (v : Value) (B : Nat) (c : Obj) : Prop where
  lt : B < w.heap.size
  nf : ¬ Foot q U B
  nv : v.ownBlock ≠ some B
  at_ : w.heap[B]? = some c

section
variable {w0 w w' : World} {q : Nat} {U0 U : Nat → Value} {N N' : Nat → List Value} {v v' : Value} {L L' : List Int} {B : Nat} {c : Obj}

theorem Box.new (h : BSt w0 w q U0 U N v L) (o : Obj) : Box (w.alloc o) q U v w.heap.size o :=
  ⟨by simp, fun hf => by have := h.msg.foot_lt hf; omega, fun hv => by have := h.row.lt hv; omega, heap_alloc_new w o⟩

theorem Box.rowTo (h : Box w q U v B c) (hR : RowTo w w' v v' L') : Box w' q U v' B c :=
  ⟨Nat.lt_of_lt_of_le h.lt hR.chg.size, h.nf, fun hv => by rcases hR.lies B hv with e | e; exact h.nv e; exact absurd h.lt (by omega), (hR.chg.block B h.lt h.nv).trans h.at_⟩

theorem BSt.upd2 (h : BSt w0 w q U0 U N v L) (hb : Box w q U v B c) (hu : Upd w w' q U N') : ∃ U', BSt w0 w' q U0 U' N' v L ∧ Box w' q U' v B c := by
  obtain ⟨U', hm, hc, hf⟩ := hu
  obtain ⟨U'', h''⟩ := h.upd ⟨U', hm, hc, hf⟩
  have hs := h.chg.size
  refine ⟨U', ⟨hm, fun k hk => ?_, h.chg.trans hc (fun b hb hF => ?_), h''.row, fun k hk => ⟨(h.fresh k hk).1, fun hF => ?_⟩⟩, ⟨Nat.lt_of_lt_of_le hb.lt hc.size, fun hF => ?_, hb.nv, (hc.block B hb.lt hb.nf).trans hb.at_⟩⟩
  · rcases hf k hk with e | e
    · exact h.foot k e
    · exact .inr (by omega)
  · rcases h.foot b hF with e | e
    · exact e
    · omega
  · rcases hf k hF with e | e
    · exact (h.fresh k hk).2 e
    · have := h.row.lt hk; omega
  · rcases hf B hF with e | e
    · exact hb.nf e
    · have := hb.lt; omega

theorem Box.cell {cs : Array Value} {t : TypeId} (h : Box w q U v B (.cells cs t (0, 0))) (i : Nat) (x : Value) (hx : cs[i]? = some x := by rfl) : w.cell? ⟨B, i, none⟩ = some x := by
  simp only [World.cell?, h.at_]
  exact hx
end

/-- Two rows that share nothing. -/
structure Apart (w : World) (v vr : Value) (R : List Int) : Prop where
  row : BRow w vr R
  ne : ∀ k, vr.ownBlock = some k → v.ownBlock ≠ some k

theorem Apart.rowTo {w w' : World} {v v' vr : Value} {R L' : List Int} (h : Apart w v vr R) (hR : RowTo w w' v v' L') : Apart w' v' vr R :=
  ⟨h.row.of_block (fun k hk => hR.chg.block k (h.row.lt hk) (h.ne k hk)), fun k hk hv => by
    rcases hR.lies k hv with e | e
    · exact h.ne k hk e
    · have := h.row.lt hk; omega⟩

theorem Apart.src {w : World} {v vr : Value} {R : List Int} (h : Apart w v vr R) : SrcV w vr (bytes R) := by
  rcases h.row.2 with ⟨h1, h2⟩ | ⟨g, cap, cur, hv, _, _, hnc, _⟩
  · exact .inl ⟨h1, List.eq_nil_of_length_eq_zero h2⟩
  · refine .inr ⟨⟨g, 0, none⟩, cap, hv, ‹_›, ?_⟩
    exact World.ownsRow.cells h.row (by rw [hv]; rfl)

theorem runOf_append (i : Nat) (a b : List Int) : runOf i (a ++ b) = runOf i a ++ runOf i b := by
  induction a with
  | nil => rfl
  | cons x xs ih => simp [runOf, ih]

theorem runOf_step (i : Nat) (vs : List Int) (j : Nat) (hj : j < vs.length) : runOf i (vs.take (j + 1)) = runOf i (vs.take j) ++ encV i vs[j] := by
  rw [List.take_succ_eq_append_getElem hj, runOf_append]; simp [runOf]

theorem put_step (N : Nat → List Value) (i : Nat) (vs : List Int) (f : Int → Value) (j : Nat) (hj : j < vs.length) : put (put N i ((vs.take j).map f)) i [f vs[j]] = put N i ((vs.take (j + 1)).map f) := by
  funext n
  unfold put setF
  by_cases e : n = i
  · subst e
    simp only [if_true]
    rw [List.take_succ_eq_append_getElem hj, List.map_append, List.append_assoc]; rfl
  · simp [e]

theorem put_nil (N : Nat → List Value) (i : Nat) : put N i [] = N := by
  funext n
  unfold put setF
  split
  · rename_i e; subst e; simp
  · rfl

/-- The bytes behind 'start', as a source. -/
theorem row_from {w : World} {g n cap : Nat} {L C : List Int} (h : BRow w (.slice (some ⟨g, 0, none⟩) n cap) (L ++ C)) (s : Nat) (hs : L.length = s) : ∀ j u, (bytes C)[j]? = some u → w.cell? ((⟨g, s, none⟩ : Addr).add j) = some u := by
  subst hs
  intro j u hu
  have := World.ownsRow.cells h (g := g) rfl (L.length + j) u (by
    rw [bytes_append, List.getElem?_append_right (by rw [bytes_length]; omega), bytes_length, Nat.add_sub_cancel_left]; exact hu)
  have e1 : (⟨g, 0, none⟩ : Addr).add (L.length + j) = ⟨g, L.length + j, none⟩ := by unfold Addr.add; split <;> simp_all
  have e2 : (⟨g, L.length, none⟩ : Addr).add j = ⟨g, L.length + j, none⟩ := by unfold Addr.add; split <;> simp_all
  rw [e2, ← e1]; exact this

theorem BRow.atHead {w : World} {v : Value} {L : List Int} (h : BRow w v L) (hL : 0 < L.length) : ∃ g c, v = .slice (some ⟨g, 0, none⟩) L.length c := by
  obtain ⟨g, cap, hv, _, _⟩ := World.ownsRow.form h (by rw [bytes_length]; exact hL)
  exact ⟨g, cap, by rw [bytes_length] at hv; exact hv⟩

theorem BRow.cap_le {w : World} {g n c : Nat} {L : List Int} (h : BRow w (.slice (some ⟨g, 0, none⟩) n c) L) : n ≤ c := by
  rcases h.2 with ⟨e, _⟩ | ⟨g', cap, cur, hv, _, _, hnc, _⟩
  · cases e
  · simp only [Value.slice.injEq] at hv
    obtain ⟨_, e1, e2⟩ := hv
    omega

theorem hidEx (m : Nat) : ∃ n, Hid (n = m) := ⟨m, show m = m from rfl⟩

theorem vs_sub (x : SOp) : x.vs.length ≤ x.vals.length := by unfold SOp.vs; simp; omega
theorem map_take_get (x : SOp) (j : Nat) (hj : j < x.vs.length) : (x.vals.map (Value.int .u64))[j]? = (x.vs.map (Value.int .u64))[j]? := by
  have := vs_len x
  unfold SOp.vs at hj ⊢
  rw [List.getElem?_map, List.getElem?_map, List.getElem?_take, if_pos (by simp at hj; omega)]

theorem bytes_one (C : List Int) : ∀ u ∈ bytes C, u.oneCell' = true := fun u hu => by
  obtain ⟨y, _, rfl⟩ := List.mem_map.1 hu; rfl

theorem tag_or2 (i : Nat) (hi : i < 7) : bits .or .u64 (num i * 8) 2 = num i * 8 + 2 := by
  rcases seven i hi with rfl | rfl | rfl | rfl | rfl | rfl | rfl <;> decide

theorem vb_pos (x : Int) : 0 < (vb x).length := by
  unfold vb vbF
  split <;> simp

theorem chunk_a {d : Nat} {x : SOp} {kk : Nat} (h : x.k = kk) (hk : kk < 7) : chunk d x = vb (num kk * 8 + wt kk) ++ encV kk x.v := by
  unfold chunk; rw [h, if_pos hk]
theorem eff_a {d : Nat} {x : SOp} {kk : Nat} (h : x.k = kk) (hk : kk < 7) (N : Nat → List Value) : eff d x N = put N kk [val kk x.v] := by
  unfold eff; rw [h, if_pos hk]
theorem chunk_b {d : Nat} {x : SOp} {i : Nat} (h : x.k = i + 7) (hk : i < 7) : chunk d x = vb (num i * 8 + 2) ++ vb (runOf i x.vs).length ++ runOf i x.vs := by
  unfold chunk; rw [h, if_neg (by omega), if_pos (by omega), Nat.add_sub_cancel]
theorem eff_b {d : Nat} {x : SOp} {i : Nat} (h : x.k = i + 7) (hk : i < 7) (N : Nat → List Value) : eff d x N = put N i (x.vs.map (val i)) := by
  unfold eff; rw [h, if_neg (by omega), if_pos (by omega), Nat.add_sub_cancel]
theorem eff_c {d : Nat} {x : SOp} {kk : Nat} (h : x.k = kk) (hk : 14 ≤ kk) (N : Nat → List Value) : eff d x N = put N 7 (bytes (chunk d x)) := by
  unfold eff; rw [h, if_neg (by omega), if_neg (by omega)]

theorem tag_or (i : Nat) (hi : i < 7) : bits .or .u64 (num i * 8) (wt i) = num i * 8 + wt i := by
  rcases seven i hi with rfl | rfl | rfl | rfl | rfl | rfl | rfl <;> decide
theorem num_bd (i : Nat) : 1 ≤ num i ∧ num i ≤ 16 := by unfold num; split <;> decide
theorem wt_bd (i : Nat) : 0 ≤ wt i ∧ wt i ≤ 5 := by unfold wt; split <;> decide

end Go.Proofs.YbulkcbpgFmt
