/-
  Seat b3893aF: the state of MergeWire.
-/
import Derived.Test.YbulkcbpgFmtBfr
import Derived.Test.YbulkcbpgFmtFld
import Derived.Test.YbulkcbpgFmtGro
namespace Go.Proofs.YbulkcbpgFmt
open Go.RowKit Go.Deep
set_option linter.unusedVariables false

theorem RdV.drop {w : World} {g : Nat} {a : Option Addr} {n c k : Nat} {T L : List Int} (h : RdV w g (.slice a n c) (T ++ L)) (hk : T.length = k) : RdV w g (.slice (Option.map (fun x => x.add k) a) (n - k) (c - k)) L := by
  obtain ⟨a', c0, off, hv, hl, ha, hcell⟩ := id h
  injection hv with e1 e2 e3
  have hlen : (T ++ L).length = k + L.length := by rw [List.length_append, hk]
  have := RdV.mid (P := T) (Q := L) (R := []) (k := k) (m := n - k) (c' := c - k) (by rw [List.append_nil]; exact h) hk (by omega) (by omega)
  exact this

theorem RdV.at {w : World} {g : Nat} {o n c k : Nat} {T L : List Int} (h : RdV w g (.slice (some ⟨g, o, none⟩) n c) (T ++ L)) (hk : T.length = k) : RdV w g (.slice (some ⟨g, o + k, none⟩) (n - k) (c - k)) L := by
  have := h.drop hk
  have e : (⟨g, o, none⟩ : Addr).add k = ⟨g, o + k, none⟩ := by
    unfold Addr.add
    split <;> simp_all
  rw [Option.map_some, e] at this
  exact this

theorem RdV.none {w : World} {g : Nat} {a : Option Addr} {n c : Nat} {L : List Int} (h : RdV w g (.slice a n c) L) (hc : c = 0) (a' : Option Addr) (c' : Nat) : RdV w g (.slice a' n c') L := by
  obtain ⟨a0, c0, off, hv, hl, ha, hcell⟩ := id h
  injection hv with e1 e2 e3
  have : L = [] := List.length_eq_zero_iff.1 (by omega)
  subst this
  have : n = 0 := by simpa using e2
  subst this
  exact RdV.nil _ _ _ _

theorem RdV.len {w : World} {g : Nat} {a : Option Addr} {n c : Nat} {L : List Int} (h : RdV w g (.slice a n c) L) : n = L.length ∧ n ≤ c := by
  obtain ⟨a', c0, off, hv, hl, ha, hcell⟩ := id h
  injection hv with e1 e2 e3
  exact ⟨e2, by omega⟩

theorem RdV.form {w : World} {g : Nat} {v : Value} {L : List Int} (h : RdV w g v L) : ∃ a c, v = .slice a L.length c := by
  obtain ⟨a', c0, off, hv, hl, ha, hcell⟩ := id h
  exact ⟨_, _, hv⟩

/-- The state between two fields. -/
structure MSt (w0 w : World) (p g : Nat) (V V1 : Nat → Value) (M1 : Nat → List Value) (v : Value) (L : List Int) : Prop where
  msg : MsgAt w p M1 V1
  chg : Chg (Foot p V) w0 w
  foot : ∀ b, Foot p V1 b → Foot p V b ∨ w0.heap.size ≤ b
  rd : RdV w g v L
  old : g < w0.heap.size
  far : ¬ Foot p V g

section
variable {w0 w w' : World} {p g : Nat} {V V1 : Nat → Value} {M1 M2 : Nat → List Value} {v v' : Value} {L L' : List Int}

theorem MSt.apart (h : MSt w0 w p g V V1 M1 v L) : ¬ Foot p V1 g := fun hf => by
  rcases h.foot g hf with e | e
  · exact h.far e
  · have := h.old; omega

theorem MSt.chgNo (h : MSt w0 w p g V V1 M1 v L) (hc : Chg No w w') : MSt w0 w' p g V V1 M1 v L :=
  ⟨h.msg.chg hc (fun _ _ hf => hf), h.chg.trans hc (fun _ _ hf => hf.elim), h.foot, h.rd.chg hc (fun hf => hf), h.old, h.far⟩

theorem MSt.to (h : MSt w0 w p g V V1 M1 v L) (hr : RdV w g v' L') : MSt w0 w p g V V1 M1 v' L' := ⟨h.msg, h.chg, h.foot, hr, h.old, h.far⟩

theorem MSt.upd (h : MSt w0 w p g V V1 M1 v L) (hu : Upd w w' p V1 M2) : ∃ V2, MSt w0 w' p g V V2 M2 v L := by
  obtain ⟨V2, hm, hc, hf⟩ := hu
  have hs := h.chg.size
  refine ⟨V2, hm, h.chg.trans hc (fun b hb hF => ?_), fun b hF => ?_, h.rd.chg hc h.apart, h.old, h.far⟩
  · rcases h.foot b hF with e | e
    · exact e
    · omega
  · rcases hf b hF with e | e
    · exact h.foot b e
    · exact .inr (by omega)
end

end Go.Proofs.YbulkcbpgFmt
