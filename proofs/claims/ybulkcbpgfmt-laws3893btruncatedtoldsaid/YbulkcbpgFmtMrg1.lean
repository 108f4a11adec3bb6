/-
  Seat b3893aF: the state of MergeWire, packed runs.
-/
import Derived.Test.YbulkcbpgFmtMrg0
namespace Go.Proofs.YbulkcbpgFmt
open Go.RowKit Go.Deep
set_option linter.unusedVariables false

theorem RdV.addr {w : World} {g : Nat} {a : Option Addr} {n c : Nat} {L : List Int} (h : RdV w g (.slice a n c) L) (hn : 0 < n) : ∃ o, a = some ⟨g, o, Option.none⟩ := by
  obtain ⟨a', c0, off, hv, hl, ha, hcell⟩ := id h
  injection hv with e1 e2 e3
  exact ⟨off, by rw [e1]; exact ha (by omega)⟩

/-- 'm.F = slices.Grow(m.F, k)': the message is as it was. -/
theorem Grew.upd {w w1 : World} {p : Nat} {V : Nat → Value} {M : Nat → List Value} {v' : Value} (h : MsgAt w p M V) (i : Nat) (hi : i < 8) (hG : Grew w w1 (El i) (V i) v' (M i)) : Upd w (w1.setCell ⟨p, i, none⟩ v') p V M := by
  have := Upd.store h hG.chg i hi v' (M i) hG.row ⟨rfl, rfl, rfl, Nat.le_refl _, fun _ _ _ => rfl⟩ hG.lies
  have e : setF M i (M i) = M := by
    funext j
    unfold setF
    split
    · rename_i e; rw [e]
    · rfl
  rw [e] at this
  exact this

theorem Grew.blk {w w1 : World} {p : Nat} {V : Nat → Value} {M : Nat → List Value} {v' : Value} (h : MsgAt w p M V) {e : TypeId} {v : Value} {xs : List Value} (hG : Grew w w1 e v v' xs) : w1.rowIs p 43 8 V :=
  h.blk.of_block (hG.chg.block p h.blk.lt (fun hf => hf))

theorem Appd.chgF {w w1 : World} {p : Nat} {M : Nat → List Value} {V : Nat → Value} {i g n cap : Nat} {ys : List Value} (h : Appd w w1 p M V i g n cap ys) : Chg (Foot p V) w (w1.setCell ⟨p, i, none⟩ (.slice (some ⟨g, 0, none⟩) n cap)) := by
  obtain ⟨W, hW, hown, hg, hat⟩ := h.rest
  exact (hW.no.grown hg (fun k hk _ => .inr ⟨i, h.hi, hk⟩)).setCell _ (fun _ => .inl rfl)

theorem Grew.form {w w1 : World} {e : TypeId} {v v' : Value} {xs : List Value} (hG : Grew w w1 e v v' xs) : ∃ a c, v' = .slice a xs.length c := by
  rcases row_cells hG.row with ⟨h, h'⟩ | ⟨g', cap, cur, h, _⟩
  · exact ⟨Option.none, 0, by rw [h, h']; rfl⟩
  · exact ⟨_, _, h⟩

theorem vbF_byte (n : Nat) : ∀ (x : Int), 0 ≤ x → ∀ b ∈ vbF n x, 0 ≤ b ∧ b < 256 := by
  induction n with
  | zero => intro x hx b hb; simp [vbF] at hb
  | succ n ih =>
    intro x hx b hb
    unfold vbF at hb
    split at hb
    · rcases List.mem_singleton.1 hb with rfl; omega
    · rcases List.mem_cons.1 hb with rfl | hb
      · omega
      · exact ih (x / 128) (by omega) b hb

theorem runOf_bytes (vs : List Int) (hy : ∀ y ∈ vs, 0 ≤ y ∧ y < 18446744073709551616) : ∀ b ∈ runOf 6 vs, 0 ≤ b ∧ b < 256 := by
  induction vs with
  | nil => intro b hb; simp [runOf] at hb
  | cons v vs ih =>
    intro b hb
    rcases List.mem_append.1 (show b ∈ vb v ++ runOf 6 vs from hb) with hb | hb
    · exact vbF_byte 10 v (hy v (by simp)).1 b hb
    · exact ih (fun y h => hy y (by simp [h])) b hb

theorem runOf_drop (i : Nat) (vs : List Int) (j : Nat) (hj : j < vs.length) : runOf i (vs.drop j) = encV i vs[j] ++ runOf i (vs.drop (j + 1)) := by
  rw [List.drop_eq_getElem_cons hj]; rfl

theorem put_none (M : Nat → List Value) (i : Nat) : put M i [] = M := by
  funext j
  unfold put setF
  split
  · rename_i e; rw [e]; simp
  · rfl

theorem encV_pos (i : Nat) (v : Int) : 0 < (encV i v).length := by
  unfold encV
  split <;> first | (rw [fx_len]; omega) | exact vb_pos v

end Go.Proofs.YbulkcbpgFmt
