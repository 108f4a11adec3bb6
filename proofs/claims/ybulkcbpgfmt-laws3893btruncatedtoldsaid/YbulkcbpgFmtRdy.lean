/-
  Seat b3893aF: what LawS3893BTruncated has before MergeWire is called.
-/
import Derived.Test.YbulkcbpgFmtMjf
import Derived.Test.YbulkcbpgFmtIsf
import Derived.Test.YbulkcbpgFmtDec
namespace Go.Proofs.YbulkcbpgFmt
open Go.RowKit Go.Deep Go.Extern.Stop Go.Stop Go.Extern
set_option linter.unusedVariables false

theorem ready {F : Interp} {ae : Addr} {s : ByteArray} {w w1 wX : World} {V U U' : Nat → Value} {M N' : Nat → List Value} {vB : Value} {L : List Int} (hSen : Sen F ae s w)
    (hT : Two w w1 w.heap.size (w.heap.size + 1) M M V U) (hB : BSt w1 wX (w.heap.size + 1) U U' N' vB L) :
    ∃ g, RdV wX g vB L ∧ g < wX.heap.size ∧ ¬ Foot w.heap.size V g ∧ MsgAt wX w.heap.size M V ∧ Sen F ae s wX ∧ ¬ Foot w.heap.size V 0 ∧ ¬ Foot w.heap.size V ae.block ∧
      ∀ w3, Chg (Foot w.heap.size V) wX w3 → MsgAt w3 (w.heap.size + 1) N' U' ∧ Chg No w w3 := by
  have hm2 : MsgAt wX w.heap.size M V := hT.fst.chg hB.chg (fun k hk hq => hT.apart k hk hq)
  obtain ⟨g, hrd, hg⟩ := hB.row.rd (w.heap.size + 1)
  have hz2 := hB.chg.size
  have hgl : g < wX.heap.size ∧ ¬ Foot w.heap.size V g := by
    rcases hg with rfl | hg
    · exact ⟨hB.msg.foot_lt (.inl rfl), fun hf => hT.apart _ hf (.inl rfl)⟩
    · refine ⟨hB.row.lt hg, fun hf => ?_⟩
      have := (hB.fresh g hg).1
      have := hT.fst.foot_lt hf
      omega
  have h12 : Chg No w wX := hT.chg.trans hB.chg (fun b hb hF => by have := hT.freshQ b hF; omega)
  have l0 := World.block_lt_of_cell? _ _ hSen.var
  have la := World.block_lt_of_cell? _ _ hSen.text
  refine ⟨g, hrd, hgl.1, hgl.2, hm2, hSen.no h12, fun hf => ?_, fun hf => ?_, fun w3 hc3 => ⟨?_, ?_⟩⟩
  · have := hT.freshP 0 hf
    have l0' : 0 < w.heap.size := l0
    omega
  · have := hT.freshP _ hf
    omega
  · exact hB.msg.chg hc3 (fun k hk hp => by
      rcases hB.foot k hk with e | e
      · exact hT.apart k hp e
      · have := hT.fst.foot_lt hp; omega)
  · exact h12.trans hc3 (fun b hb hF => by have := hT.freshP b hF; omega)

end Go.Proofs.YbulkcbpgFmt
