/-
  Seat b3893aF: 'm.F = append(m.F, ..)' as a law of the walk, in a plain region and in one that draws its order.
-/
import Derived.Test.YbulkcbpgFmtRows
import Derived.Test.YbulkcbpgFmtMem
import Derived.WalkSpells
import Derived.Deep.RegionLaw
namespace Go.Proofs.YbulkcbpgFmt
open Go.RowKit Go.Deep

/-- The slice types of the eight fields. -/
def Sl : Nat → TypeId
  | 0 => 36 | 1 => 37 | 2 => 38 | 3 => 23 | 4 => 39 | 5 => 40 | 6 => 41 | _ => 24

theorem eight (i : Nat) (hi : i < 8) : i = 0 ∨ i = 1 ∨ i = 2 ∨ i = 3 ∨ i = 4 ∨ i = 5 ∨ i = 6 ∨ i = 7 := by omega

theorem sl_under (i : Nat) (hi : i < 8) : Ybaf.prog.underlying (Sl i) = some (.slice (El i)) := by
  rcases eight i hi with rfl | rfl | rfl | rfl | rfl | rfl | rfl | rfl
  · exact Ybaf.underlying36
  · exact Ybaf.underlying37
  · exact Ybaf.underlying38
  · exact Ybaf.underlying23
  · exact Ybaf.underlying39
  · exact Ybaf.underlying40
  · exact Ybaf.underlying41
  · exact Ybaf.underlying24

theorem info59 : (Ybaf.prog.info? 59).map (fun i => (i.zero, i.size, i.bytes)) = some (some (.float .f64 0), 1, 8) := by kernel_rfl
theorem info67 : (Ybaf.prog.info? 67).map (fun i => (i.zero, i.size, i.bytes)) = some (some (.float .f32 0), 1, 4) := by kernel_rfl
theorem info64 : (Ybaf.prog.info? 64).map (fun i => (i.zero, i.size, i.bytes)) = some (some (.int .u32 0), 1, 4) := by kernel_rfl
theorem info34 : (Ybaf.prog.info? 34).map (fun i => (i.zero, i.size, i.bytes)) = some (some (.int .u64 0), 1, 8) := by kernel_rfl
theorem info21 : (Ybaf.prog.info? 21).map (fun i => (i.zero, i.size, i.bytes)) = some (some (.int .i32 0), 1, 4) := by kernel_rfl
theorem info2 : (Ybaf.prog.info? 2).map (fun i => (i.zero, i.size, i.bytes)) = some (some (.int .i64 0), 1, 8) := by kernel_rfl
theorem info4 : (Ybaf.prog.info? 4).map (fun i => (i.zero, i.size, i.bytes)) = some (some (.bool false), 1, 1) := by kernel_rfl
theorem info5 : (Ybaf.prog.info? 5).map (fun i => (i.zero, i.size, i.bytes)) = some (some (.int .u8 0), 1, 1) := by kernel_rfl

theorem el_info (i : Nat) (hi : i < 8) : ∃ inf z by', Ybaf.prog.info? (El i) = some inf ∧ inf.zero = some z ∧ inf.size = 1 ∧ inf.bytes = by' ∧ z.cells = #[z] ∧ 0 < by' ∧ by' ≤ 8 := by
  have key : ∀ (t : TypeId) (z : Value) (b : Nat), (Ybaf.prog.info? t).map (fun i => (i.zero, i.size, i.bytes)) = some (some z, 1, b) → z.cells = #[z] → 0 < b → b ≤ 8 → ∃ inf z by', Ybaf.prog.info? t = some inf ∧ inf.zero = some z ∧ inf.size = 1 ∧ inf.bytes = by' ∧ z.cells = #[z] ∧ 0 < by' ∧ by' ≤ 8 := by
    intro t z b h hz h0 hb
    obtain ⟨inf, hi, hzz⟩ := Option.map_eq_some_iff.1 h
    simp only [Prod.mk.injEq] at hzz
    exact ⟨inf, z, b, hi, hzz.1, hzz.2.1, hzz.2.2, hz, h0, hb⟩
  rcases eight i hi with rfl | rfl | rfl | rfl | rfl | rfl | rfl | rfl
  · exact key _ _ _ info59 rfl (by decide) (by decide)
  · exact key _ _ _ info67 rfl (by decide) (by decide)
  · exact key _ _ _ info64 rfl (by decide) (by decide)
  · exact key _ _ _ info34 rfl (by decide) (by decide)
  · exact key _ _ _ info21 rfl (by decide) (by decide)
  · exact key _ _ _ info2 rfl (by decide) (by decide)
  · exact key _ _ _ info4 rfl (by decide) (by decide)
  · exact key _ _ _ info5 rfl (by decide) (by decide)

/-- BEHIND THE append OF 'm.F = append(m.F, ..)', AHEAD OF THE STORE. -/
structure Appd (w w1 : World) (p : Nat) (M : Nat → List Value) (V : Nat → Value) (i g n cap : Nat) (ys : List Value) : Prop where
  msg : MsgAt w p M V
  hi : i < 8
  len : n = (M i).length + ys.length
  rest : ∃ W, Chg No w W ∧ w1.ownsRow 0 (El i) 1 (.slice (some ⟨g, 0, none⟩) n cap) n (M i ++ ys) ∧ W.grownBy w1 (V i).ownBlock ∧ ((V i).ownBlock = some g ∨ g = W.heap.size)

section
variable {w w1 : World} {p : Nat} {M : Nat → List Value} {V : Nat → Value} {i g n cap : Nat} {ys : List Value}

theorem Appd.upd (h : Appd w w1 p M V i g n cap ys) : Upd w (w1.setCell ⟨p, i, none⟩ (.slice (some ⟨g, 0, none⟩) n cap)) p V (put M i ys) := by
  obtain ⟨W, hW, hown, hg, hat⟩ := h.rest
  exact Upd.append h.msg hW i h.hi g cap ys h.len rfl hown hg hat

theorem Appd.blk (h : Appd w w1 p M V i g n cap ys) : w1.rowIs p 43 8 V := by
  obtain ⟨W, hW, hown, hg, hat⟩ := h.rest
  have hp := h.msg.blk.lt
  exact h.msg.blk.of_block ((hg.block p (Nat.lt_of_lt_of_le hp hW.size) (fun e => h.msg.far i h.hi e.symm)).trans (hW.block p hp (fun hf => hf.elim)))

theorem Appd.cell (h : Appd w w1 p M V i g n cap ys) : w1.cell? ⟨p, i, none⟩ = some (V i) := h.blk.cell h.hi
theorem Appd.frozen (h : Appd w w1 p M V i g n cap ys) : w1.frozen? ⟨p, i, none⟩ = false := h.blk.frozen i
end

section
variable {w W : World} {p : Nat} {M : Nat → List Value} {V : Nat → Value} {o : Oper} {a : Act} {K : Act → World → Prop} {Q : Exit → Act → World → Prop}

theorem wp_msg_append (i : Nat) (hi : i < 8) (s x : Operand) (ho : o.op = .call { callee := .builtin .append, args := #[s, x], argTypes := #[Sl i, Sl i] })
    (h : MsgAt w p M V) (hW : Chg No w W) (hs : a.eval s = V i) (ad : Addr) (m c : Nat) (ys : List Value) (hx : a.eval x = .slice (some ad) m c) (hl : ys.length = m) (hc : ∀ j u, ys[j]? = some u → W.cell? (ad.add j) = some u) (h1 : ∀ u ∈ ys, u.oneCell' = true)
    (hm : 0 < m) (n : Nat) (hn : n = (M i).length + m) (hb : n ≤ 1099511627776)
    (hK : ∀ g cap w1, Appd w w1 p M V i g n cap ys → K (a.put o.dst (.slice (some ⟨g, 0, none⟩) n cap)) w1) : o.wp Ybaf.prog a W K Q := by
  obtain ⟨inf, z, b, hinf, hz, hsz, hby, hz1, hb0, hb8⟩ := el_info i hi
  subst hn
  have hrow : W.ownsRow 0 (El i) 1 (V i) (M i).length (M i) := (h.row i hi).of_block (fun k hk => hW.block k ((h.row i hi).lt hk) (fun hf => hf.elim))
  refine wp_append_lies W s x (Sl i) ho 0 (El i) inf z 1 b (sl_under i hi) hinf hz hsz hby (by rw [hz1]; rfl) (by decide) (V i) (M i).length (M i) hs hrow ad m c ys hx (by omega) hc h1 hm (by unfold maxLen; omega) ?_ (Nat.zero_le _) _ rfl ?_
  · have : ((M i).length + m) * b ≤ 1099511627776 * 8 := Nat.mul_le_mul hb hb8
    omega
  · intro g cap w1 hown hg hat hlt
    exact hK g cap w1 ⟨h, hi, by rw [hl], W, hW, hown, hg, hat⟩

theorem step_msg_append {ops : Array Oper} {E : Prop} (hgd : o.guard = none) (i : Nat) (hi : i < 8) (s x : Operand) (ho : o.op = .call { callee := .builtin .append, args := #[s, x], argTypes := #[Sl i, Sl i] })
    (h : MsgAt w p M V) (hW : Chg No w W) (hs : a.eval s = V i) (ad : Addr) (m c : Nat) (ys : List Value) (hx : a.eval x = .slice (some ad) m c) (hl : ys.length = m) (hc : ∀ j u, ys[j]? = some u → W.cell? (ad.add j) = some u) (h1 : ∀ u ∈ ys, u.oneCell' = true)
    (hm : 0 < m) (n : Nat) (hn : n = (M i).length + m) (hb : n ≤ 1099511627776)
    (hK : ∀ g cap w1, Appd w w1 p M V i g n cap ys → K (a.put o.dst (.slice (some ⟨g, 0, none⟩) n cap)) w1) : if Region.wanted o (yielded ops a.tmps) = true then Oper.wp Ybaf.prog o a W K Q else E := by
  have hw : Region.wanted o (yielded ops a.tmps) = true := by simp [Region.wanted, hgd]
  rw [if_pos hw]
  exact wp_msg_append i hi s x ho h hW hs ad m c ys hx hl hc h1 hm n hn hb hK

theorem wpList_msg_append {ops : Array Oper} {rest : List Oper} (hgd : o.guard = none) (i : Nat) (hi : i < 8) (s x : Operand) (ho : o.op = .call { callee := .builtin .append, args := #[s, x], argTypes := #[Sl i, Sl i] })
    (h : MsgAt w p M V) (hW : Chg No w W) (hs : a.eval s = V i) (ad : Addr) (m c : Nat) (ys : List Value) (hx : a.eval x = .slice (some ad) m c) (hl : ys.length = m) (hc : ∀ j u, ys[j]? = some u → W.cell? (ad.add j) = some u) (h1 : ∀ u ∈ ys, u.oneCell' = true)
    (hm : 0 < m) (n : Nat) (hn : n = (M i).length + m) (hb : n ≤ 1099511627776)
    (hK : ∀ g cap w1, Appd w w1 p M V i g n cap ys → wpList Ybaf.prog ops Q rest (a.put o.dst (.slice (some ⟨g, 0, none⟩) n cap)) w1) : wpList Ybaf.prog ops Q (o :: rest) a W :=
  wpList_plain hgd fun _ hKK => wp_msg_append i hi s x ho h hW hs ad m c ys hx hl hc h1 hm n hn hb fun g cap w1 hA => hKK _ _ (hK g cap w1 hA)
end

/-- One new cell, as a source. -/
theorem one_cell {w : World} {B : Nat} {x : Value} {t : TypeId} (hB : w.heap.size = B) : ∀ j u, [x][j]? = some u → (w.alloc (.cells #[x] t)).cell? ((⟨B, 0, none⟩ : Addr).add j) = some u := by
  subst hB
  exact World.news_of_block (cs := #[x]) (heap_alloc_new w _)

theorem one_cell_drew {w : World} {B : Nat} {x : Value} {t : TypeId} (hB : w.heap.size = B) : ∀ j u, [x][j]? = some u → (w.alloc (.cells #[x] t)).drew.cell? ((⟨B, 0, none⟩ : Addr).add j) = some u := one_cell hB

theorem one_one {x : Value} (h : x.oneCell' = true) : ∀ u ∈ [x], u.oneCell' = true := fun u hu => by
  rcases List.mem_singleton.1 hu with rfl
  exact h

end Go.Proofs.YbulkcbpgFmt
