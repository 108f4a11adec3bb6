/-
  Seat b3893aF: the memory of a message: eight slices in a struct, each owning its elements, no two sharing memory; what a call may change.
-/
import Derived.WalkKit
import Derived.Deep.AppendLies
import Derived.Deep.OwnRows
import Derived.Deep.Draws
namespace Go.Proofs.YbulkcbpgFmt
open Go.RowKit Go.Deep

/-! ### What a call may change -/

/-- w' is w but for blocks of F and for new blocks. -/
structure Chg (F : Nat → Prop) (w w' : World) : Prop where
  os : w'.os = w.os
  tape : w'.tape = w.tape
  output : w'.output = w.output
  size : w.heap.size ≤ w'.heap.size
  block : ∀ k, k < w.heap.size → ¬ F k → w'.heap[k]? = w.heap[k]?

/-- Nothing old is touched. -/
def No : Nat → Prop := fun _ => False

namespace Chg
variable {F G : Nat → Prop} {w w1 w2 : World}
theorem refl (F : Nat → Prop) (w : World) : Chg F w w := ⟨rfl, rfl, rfl, Nat.le_refl _, fun _ _ _ => rfl⟩
theorem trans (h : Chg F w w1) (k : Chg G w1 w2) (hFG : ∀ b, b < w.heap.size → G b → F b) : Chg F w w2 :=
  ⟨k.os.trans h.os, k.tape.trans h.tape, k.output.trans h.output, Nat.le_trans h.size k.size,
   fun b hb hn => (k.block b (Nat.lt_of_lt_of_le hb h.size) (fun hg => hn (hFG b hb hg))).trans (h.block b hb hn)⟩
theorem mono (h : Chg F w w1) (hFG : ∀ b, b < w.heap.size → F b → G b) : Chg G w w1 := ⟨h.os, h.tape, h.output, h.size, fun b hb hn => h.block b hb (fun hf => hn (hFG b hb hf))⟩
theorem no (h : Chg No w w1) : Chg F w w1 := h.mono (fun _ _ hf => hf.elim)
theorem drew (h : Chg F w w1) : Chg F w w1.drew := ⟨h.os, h.tape, h.output, h.size, h.block⟩
theorem drewN (h : Chg F w w1) (n : Nat) : Chg F w (w1.drewN n) := ⟨h.os, h.tape, h.output, h.size, h.block⟩
theorem alloc (h : Chg F w w1) (o : Obj) : Chg F w (w1.alloc o) :=
  h.trans (G := No) ⟨rfl, rfl, rfl, by rw [nblk_alloc]; omega, fun k hk _ => blk_alloc_lt _ _ _ hk⟩ (fun _ _ hf => hf.elim)
theorem setCell (h : Chg F w w1) {a : Addr} (v : Value) (ha : a.block < w.heap.size → F a.block) : Chg F w (w1.setCell a v) :=
  h.trans (G := fun b => b = a.block) ⟨rfl, rfl, rfl, by rw [nblk_setCell]; exact Nat.le_refl _, fun k _ hk => blk_setCell_other _ _ _ _ hk⟩ (fun b hb e => by subst e; exact ha hb)
theorem grown {row : Option Nat} (h : Chg F w w1) (hg : w1.grownBy w2 row) (hr : ∀ k, row = some k → k < w.heap.size → F k) : Chg F w w2 :=
  h.trans (G := fun b => some b = row) ⟨hg.os, hg.tape, hg.output, hg.size, fun k hk hn => hg.block k hk hn⟩ (fun b hb e => hr b e.symm hb)
theorem below (h : Chg F w w1) {B : Nat} (hB : B ≤ w.heap.size) (hF : ∀ b, b < B → ¬ F b) : Below B w w1 := ⟨h.os, h.tape, h.output, h.size, fun k hk => h.block k (by omega) (hF k hk)⟩
theorem cell (h : Chg F w w1) {a : Addr} (ha : a.block < w.heap.size) (hF : ¬ F a.block) : w1.cell? a = w.cell? a := World.cell?_of_block (h.block _ ha hF)
end Chg

/-! ### A row of one-cell elements that the call owns -/

/-- The slice value v owns the elements xs (of type e). -/
abbrev Row (w : World) (e : TypeId) (v : Value) (xs : List Value) : Prop := w.ownsRow 0 e 1 v xs.length xs

theorem Row.of_block {w w' : World} {e : TypeId} {v : Value} {xs : List Value} (h : Row w e v xs) (hb : ∀ k, v.ownBlock = some k → w'.heap[k]? = w.heap[k]?) : Row w' e v xs := by
  refine ⟨h.1, ?_⟩
  rcases h.2 with h2 | ⟨g, cap, cur, hv, hg, hh, r⟩
  · exact .inl h2
  · exact .inr ⟨g, cap, cur, hv, hg, by rw [hb g (by rw [hv]; rfl)]; exact hh, r⟩

theorem Row.lt {w : World} {e : TypeId} {v : Value} {xs : List Value} (h : Row w e v xs) {k : Nat} (hk : v.ownBlock = some k) : k < w.heap.size := (World.ownsRow.lt h k hk).2

/-! ### A message in memory -/

/-- The element types of the eight fields. -/
def El : Nat → TypeId
  | 0 => 59 | 1 => 67 | 2 => 64 | 3 => 34 | 4 => 21 | 5 => 2 | 6 => 4 | _ => 5

/-- The message's struct is block p; its eight fields are the slices V; field i owns the elements M i; no two share memory. -/
structure MsgAt (w : World) (p : Nat) (M : Nat → List Value) (V : Nat → Value) : Prop where
  blk : w.rowIs p 43 8 V
  row : ∀ i, i < 8 → Row w (El i) (V i) (M i)
  far : ∀ i, i < 8 → (V i).ownBlock ≠ some p
  apart : ∀ i j k, i < 8 → j < 8 → (V i).ownBlock = some k → (V j).ownBlock = some k → i = j

/-- The blocks of a message. -/
def Foot (p : Nat) (V : Nat → Value) (k : Nat) : Prop := k = p ∨ ∃ i, i < 8 ∧ (V i).ownBlock = some k

theorem MsgAt.foot_lt {w : World} {p : Nat} {M : Nat → List Value} {V : Nat → Value} (h : MsgAt w p M V) {k : Nat} (hk : Foot p V k) : k < w.heap.size := by
  rcases hk with rfl | ⟨i, hi, hk⟩
  · exact h.blk.lt
  · exact (h.row i hi).lt hk

theorem MsgAt.keep {w w' : World} {p : Nat} {M : Nat → List Value} {V : Nat → Value} (h : MsgAt w p M V) (hb : ∀ k, Foot p V k → w'.heap[k]? = w.heap[k]?) : MsgAt w' p M V :=
  ⟨h.blk.of_block (hb p (.inl rfl)), fun i hi => (h.row i hi).of_block (fun k hk => hb k (.inr ⟨i, hi, hk⟩)), h.far, h.apart⟩

theorem MsgAt.chg {w w' : World} {p : Nat} {M : Nat → List Value} {V : Nat → Value} {F : Nat → Prop} (h : MsgAt w p M V) (hc : Chg F w w') (hF : ∀ k, Foot p V k → ¬ F k) : MsgAt w' p M V :=
  h.keep (fun k hk => hc.block k (h.foot_lt hk) (hF k hk))

/-- The message p holds M' now; what was touched was its own; its blocks are its old ones and new ones. -/
def Upd (w w' : World) (p : Nat) (V : Nat → Value) (M' : Nat → List Value) : Prop :=
  ∃ V', MsgAt w' p M' V' ∧ Chg (Foot p V) w w' ∧ ∀ k, Foot p V' k → Foot p V k ∨ w.heap.size ≤ k

theorem Upd.same {w w' : World} {p : Nat} {V : Nat → Value} {M : Nat → List Value} (h : MsgAt w p M V) (hc : Chg No w w') : Upd w w' p V M :=
  ⟨V, h.chg hc (fun _ _ hf => hf.elim), hc.no, fun _ hk => .inl hk⟩

theorem Upd.then {w w1 w2 : World} {p : Nat} {V V1 : Nat → Value} {M2 : Nat → List Value} (hc : Chg (Foot p V) w w1) (hf : ∀ k, Foot p V1 k → Foot p V k ∨ w.heap.size ≤ k) (h2 : Upd w1 w2 p V1 M2) : Upd w w2 p V M2 := by
  obtain ⟨V2, hm, hc2, hf2⟩ := h2
  refine ⟨V2, hm, hc.trans hc2 (fun b hb hG => ?_), fun k hk => ?_⟩
  · rcases hf b hG with h | h
    · exact h
    · omega
  · rcases hf2 k hk with h | h
    · exact hf k h
    · exact .inr (Nat.le_trans hc.size h)

theorem Upd.drew {w w' : World} {p : Nat} {V : Nat → Value} {M' : Nat → List Value} (h : Upd w w' p V M') : Upd w w'.drew p V M' := by
  obtain ⟨V', hm, hc, hf⟩ := h
  exact ⟨V', hm.keep (fun _ _ => rfl), hc.drew, hf⟩

/-- Field i holds xs now. -/
def setF (M : Nat → List Value) (i : Nat) (xs : List Value) : Nat → List Value := fun j => if j = i then xs else M j
/-- Field i with ys behind. -/
def put (M : Nat → List Value) (i : Nat) (ys : List Value) : Nat → List Value := setF M i (M i ++ ys)

/-- 'm.F = v', behind the store: W is w but for new blocks; w1 is W but for the field's own row and new blocks; v owns xs there, in the old row or in a new one. -/
theorem Upd.store {w W w1 : World} {p : Nat} {M : Nat → List Value} {V : Nat → Value} (h : MsgAt w p M V) (hW : Chg No w W) (i : Nat) (hi : i < 8) (v : Value) (xs : List Value)
    (hown : Row w1 (El i) v xs) (hg : W.grownBy w1 (V i).ownBlock) (hat : ∀ g, v.ownBlock = some g → (V i).ownBlock = some g ∨ w.heap.size ≤ g) :
    Upd w (w1.setCell ⟨p, i, none⟩ v) p V (setF M i xs) := by
  have hp : p < w.heap.size := h.blk.lt
  have hWs := hW.size
  have hpg : some p ≠ (V i).ownBlock := fun e => h.far i hi e.symm
  have hgp : ∀ g, v.ownBlock = some g → g ≠ p := fun g hg e' => by
    rcases hat g hg with e | e
    · exact h.far i hi (by rw [e, e'])
    · omega
  have keepW : ∀ k, k < w.heap.size → some k ≠ (V i).ownBlock → w1.heap[k]? = w.heap[k]? := fun k hk hne => (hg.block k (by omega) hne).trans (hW.block k hk (fun hf => hf.elim))
  have hblk1 : w1.rowIs p 43 8 V := h.blk.of_block (keepW p hp hpg)
  have hset : ∀ k, k ≠ p → (w1.setCell ⟨p, i, none⟩ v).heap[k]? = w1.heap[k]? := fun k hk => blk_setCell_other _ _ _ _ (by simpa using hk)
  refine ⟨fun j => if j = i then v else V j, ⟨hblk1.set i _, fun j hj => ?_, fun j hj => ?_, fun a b k ha hb hka hkb => ?_⟩, ?_, fun k hk => ?_⟩
  · by_cases e : j = i
    · subst e
      simp only [if_true, setF]
      exact hown.of_block (fun k hk => hset k (hgp k hk))
    · simp only [e, if_false, setF]
      refine (h.row j hj).of_block (fun k hk => ?_)
      have hkp : k ≠ p := fun e' => h.far j hj (by rw [hk, e'])
      rw [hset k hkp]
      exact keepW k ((h.row j hj).lt hk) (fun e' => e (h.apart j i k hj hi hk e'.symm))
  · by_cases e : j = i
    · simp only [e, if_true]
      intro e'; exact hgp p e' rfl
    · simp only [e, if_false]; exact h.far j hj
  · by_cases ea : a = i <;> by_cases eb : b = i
    · rw [ea, eb]
    · exfalso
      simp only [ea, if_true] at hka
      simp only [eb, if_false] at hkb
      rcases hat k hka with e | e
      · exact eb (h.apart b i k hb hi hkb e)
      · have := (h.row b hb).lt hkb; omega
    · exfalso
      simp only [eb, if_true] at hkb
      simp only [ea, if_false] at hka
      rcases hat k hkb with e | e
      · exact ea (h.apart a i k ha hi hka e)
      · have := (h.row a ha).lt hka; omega
    · simp only [ea, if_false] at hka
      simp only [eb, if_false] at hkb
      exact h.apart a b k ha hb hka hkb
  · exact (hW.no.grown hg (fun k hk _ => .inr ⟨i, hi, hk⟩)).setCell _ (fun _ => .inl rfl)
  · rcases hk with rfl | ⟨j, hj, hk⟩
    · exact .inl (.inl rfl)
    · by_cases e : j = i
      · simp only [e, if_true] at hk
        rcases hat k hk with e' | e'
        · exact .inl (.inr ⟨i, hi, e'⟩)
        · exact .inr e'
      · simp only [e, if_false] at hk
        exact .inl (.inr ⟨j, hj, hk⟩)

/-- 'm.F = append(m.F, ..)', behind the store. -/
theorem Upd.append {w W w1 : World} {p : Nat} {M : Nat → List Value} {V : Nat → Value} (h : MsgAt w p M V) (hW : Chg No w W) (i : Nat) (hi : i < 8) (g cap : Nat) (ys : List Value) {n : Nat} {zs : List Value} (hn : n = (M i).length + ys.length) (hzs : zs = M i ++ ys)
    (hown : w1.ownsRow 0 (El i) 1 (.slice (some ⟨g, 0, none⟩) n cap) n zs) (hg : W.grownBy w1 (V i).ownBlock) (hat : (V i).ownBlock = some g ∨ g = W.heap.size) :
    Upd w (w1.setCell ⟨p, i, none⟩ (.slice (some ⟨g, 0, none⟩) n cap)) p V (put M i ys) := by
  subst hzs
  refine Upd.store h hW i hi _ _ ?_ hg (fun k hk => ?_)
  · show w1.ownsRow 0 (El i) 1 _ (M i ++ ys).length _
    rw [List.length_append, ← hn]; exact hown
  · have hk' : g = k := by simpa [Value.ownBlock] using hk
    subst hk'
    rcases hat with e | e
    · exact .inl e
    · exact .inr (by rw [e]; exact hW.size)

end Go.Proofs.YbulkcbpgFmt
