/-
  Seat b3893aF: Prior.
-/
import Derived.Test.YbulkcbpgFmtPut
import Derived.Test.YbulkcbpgFmtEnc
import Derived.Laws.AppendOwnNone
namespace Go.Proofs.YbulkcbpgFmt
open Go.RowKit Go.Deep
set_option linter.unusedVariables false

/-! ### A slice that is read -/

/-- The slice v yields the values ys. -/
def SrcV (w : World) (v : Value) (ys : List Value) : Prop :=
  (v = .slice none 0 0 ∧ ys = []) ∨ ∃ ad c, v = .slice (some ad) ys.length c ∧ ys.length ≤ c ∧ ∀ j u, ys[j]? = some u → w.cell? (ad.add j) = some u

theorem SrcV.later {w w' : World} {v : Value} {ys : List Value} (h : SrcV w v ys) (hc : Chg No w w') : SrcV w' v ys := by
  rcases h with h | ⟨ad, c, rfl, hlc, hh⟩
  · exact .inl h
  · refine .inr ⟨ad, c, rfl, hlc, fun j u hu => ?_⟩
    have := hh j u hu
    rw [hc.cell (World.block_lt_of_cell? _ _ this) (fun hf => hf)]
    exact this

/-- What the walk is told: the slice's form, and its cells. -/
theorem SrcV.form {w : World} {v : Value} {ys : List Value} (h : SrcV w v ys) : ∃ a c b off, v = .slice a ys.length c ∧ ys.length ≤ c ∧ (0 < ys.length → a = some ⟨b, off, none⟩) ∧ ∀ j, j < ys.length → w.cell? ⟨b, off + j, none⟩ = ys[j]? := by
  rcases h with ⟨rfl, rfl⟩ | ⟨ad, c, rfl, hlc, hh⟩
  · exact ⟨none, 0, 0, 0, rfl, Nat.le_refl _, fun h => absurd h (by simp), fun j hj => absurd hj (by simp)⟩
  · refine ⟨some ad, c, ad.block, ad.off, rfl, hlc, fun h0 => ?_, fun j hj => ?_⟩
    · have := hh 0 _ (List.getElem?_eq_getElem h0)
      have hs := World.cell?_spot this
      obtain ⟨b, o, sp⟩ := ad
      simpa [Addr.add] using hs
    · have h0 := hh 0 _ (List.getElem?_eq_getElem (by omega))
      have hs : ad.spot = none := by simpa [Addr.add] using World.cell?_spot h0
      have := hh j _ (List.getElem?_eq_getElem hj)
      rw [List.getElem?_eq_getElem hj, ← this]
      obtain ⟨b, o, sp⟩ := ad
      subst hs
      congr 1
      by_cases e : j = 0
      · subst e; simp [Addr.add]
      · simp [Addr.add, e]

section
variable {w W : World} {o : Oper} {a : Act} {Q : Exit → Act → World → Prop}
/-- append(own bytes, src...), whatever the source. -/
theorem wpList_row_append_src {ops : Array Oper} {rest : List Oper} (hgd : o.guard = none) (s x : Operand) (ho : o.op = .call { callee := .builtin .append, args := #[s, x], argTypes := #[24, 24] })
    (v0 v : Value) (L : List Int) (hs : a.eval s = v) (h : RowTo w W v0 v L) (vx : Value) (ys : List Int) (hx : a.eval x = vx) (hsrc : SrcV W vx (bytes ys))
    (n : Nat) (hn : n = L.length + ys.length) (hb : n ≤ 1099511627776)
    (hK : ∀ a' cap w1, RowTo w w1 v0 (.slice a' n cap) (L ++ ys) → wpList Ybaf.prog ops Q rest (a.put o.dst (.slice a' n cap)) w1) : wpList Ybaf.prog ops Q (o :: rest) a W := by
  obtain ⟨inf, hinf, hzz⟩ := Option.map_eq_some_iff.1 info5
  simp only [Prod.mk.injEq] at hzz
  obtain ⟨hz, hsz, hby⟩ := hzz
  subst hn
  have hrow := h.row
  rcases hsrc with ⟨rfl, hy⟩ | ⟨ad, c, rfl, hlc, hcell⟩
  · have hy0 : ys = [] := List.eq_nil_of_length_eq_zero (by have := congrArg List.length hy; simpa [bytes_length] using this)
    subst hy0
    refine wpList_append_own_none hgd s x 24 ho 0 5 inf 1 Ybaf.underlying24 hinf v _ _ hs hrow hx ?_
    have hf : ∃ a' cap, v = .slice a' L.length cap := by
      rcases hrow.2 with ⟨h1, h2⟩ | ⟨g, cap, cur, hv, _⟩
      · exact ⟨none, 0, by rw [bytes_length] at h2; rw [h1, h2]⟩
      · exact ⟨_, cap, by rw [bytes_length] at hv; exact hv⟩
    obtain ⟨a', cap, rfl⟩ := hf
    have := hK a' cap W (by simpa using h)
    simpa using this
  · refine wpList_append_own_at W hgd s x 24 ho 0 5 inf (.int .u8 0) 1 1 Ybaf.underlying24 hinf hz hsz hby rfl (by decide) v (bytes L).length (bytes L) hs hrow ad (bytes ys).length c (bytes ys) hx (by omega) hcell (fun u hu => ?_) (by rw [bytes_length, bytes_length]; unfold maxLen; omega) (by rw [bytes_length, bytes_length]; omega) (Nat.zero_le _) ?_
    · obtain ⟨y, _, rfl⟩ := List.mem_map.1 hu; rfl
    · intro v' w1 hown hg hnil hat
      have hf : ∃ a' cap, v' = .slice a' (L.length + ys.length) cap := by
        rcases hown.2 with ⟨h1, h2⟩ | ⟨g, cap, cur, hv, _⟩
        · exact ⟨none, 0, by rw [bytes_length, bytes_length] at h2; rw [h1, h2]⟩
        · exact ⟨_, cap, by rw [bytes_length, bytes_length] at hv; exact hv⟩
      obtain ⟨a', cap, rfl⟩ := hf
      refine hK a' cap w1 (h.trans ⟨?_, (Chg.refl _ _).grown hg (fun _ hk _ => hk), fun k hk => ?_⟩)
      · show w1.ownsRow 0 5 1 _ (bytes (L ++ ys)).length (bytes (L ++ ys))
        rw [bytes_length, bytes_append, List.length_append]
        rw [bytes_length, bytes_length] at hown
        exact hown
      · rcases hat with e | e
        · exact .inl (by rw [← e]; exact hk)
        · rw [hk] at e
          exact .inr (by have : k = W.heap.size := by simpa using e
                         omega)
end

/-! ### Two messages -/

structure Two (w0 w : World) (p q : Nat) (M N : Nat → List Value) (V U : Nat → Value) : Prop where
  fst : MsgAt w p M V
  snd : MsgAt w q N U
  apart : ∀ k, Foot p V k → ¬ Foot q U k
  freshP : ∀ k, Foot p V k → w0.heap.size ≤ k
  freshQ : ∀ k, Foot q U k → w0.heap.size ≤ k
  chg : Chg No w0 w

theorem Two.updP {w0 w w' : World} {p q : Nat} {M N M' : Nat → List Value} {V U : Nat → Value} (h : Two w0 w p q M N V U) (hu : Upd w w' p V M') : ∃ V', Two w0 w' p q M' N V' U := by
  obtain ⟨V', hm, hc, hf⟩ := hu
  have hs := h.chg.size
  refine ⟨V', hm, h.snd.chg hc (fun k hk hp => h.apart k hp hk), fun k hk hq => ?_, fun k hk => ?_, h.freshQ, h.chg.trans hc (fun b hb hF => by have := h.freshP b hF; omega)⟩
  · rcases hf k hk with e | e
    · exact h.apart k e hq
    · have := h.snd.foot_lt hq; omega
  · rcases hf k hk with e | e
    · exact h.freshP k e
    · omega

theorem Two.swap {w0 w : World} {p q : Nat} {M N : Nat → List Value} {V U : Nat → Value} (h : Two w0 w p q M N V U) : Two w0 w q p N M U V :=
  ⟨h.snd, h.fst, fun k hq hp => h.apart k hp hq, h.freshQ, h.freshP, h.chg⟩

theorem Two.updQ {w0 w w' : World} {p q : Nat} {M N N' : Nat → List Value} {V U : Nat → Value} (h : Two w0 w p q M N V U) (hu : Upd w w' q U N') : ∃ U', Two w0 w' p q M N' V U' := by
  obtain ⟨U', h'⟩ := h.swap.updP hu
  exact ⟨U', h'.swap⟩

/-- What both messages hold when k of the prior values are in, and j fields of the next. -/
def Mp (xs : List Int) (k j : Nat) : Nat → List Value := fun i => if i < 7 then (xs.take (if i < j then k + 1 else k)).map (val i) else []

theorem Mp_step (xs : List Int) (k j : Nat) (hj : j < 7) (hk : k < xs.length) : put (Mp xs k j) j [val j xs[k]] = Mp xs k (j + 1) := by
  funext i
  by_cases e : i = j
  · subst e
    simp only [put, setF, Mp, if_pos hj, if_true, Nat.lt_irrefl, if_false, Nat.lt_succ_self]
    rw [List.take_succ_eq_append_getElem hk, List.map_append]
    rfl
  · simp only [put, setF, Mp, e, if_false]
    by_cases h7 : i < 7
    · simp only [h7, if_true]
      by_cases hlt : i < j
      · rw [if_pos hlt, if_pos (by omega)]
      · rw [if_neg hlt, if_neg (by omega)]
    · simp [h7]

theorem Mp_next (xs : List Int) (k : Nat) : Mp xs k 7 = Mp xs (k + 1) 0 := by
  funext i
  simp only [Mp]
  by_cases h7 : i < 7
  · simp [h7]
  · simp [h7]

theorem Mp_len (xs : List Int) (k j i : Nat) : (Mp xs k j i).length ≤ xs.length := by
  unfold Mp
  split
  · simp; omega
  · simp

/-- An empty message. -/
def nilV : Nat → Value := fun _ => .slice none 0 0

theorem msg_new (w : World) : MsgAt (w.alloc (.cells #[.slice none 0 0, .slice none 0 0, .slice none 0 0, .slice none 0 0, .slice none 0 0, .slice none 0 0, .slice none 0 0, .slice none 0 0] 43)) w.heap.size (fun _ => []) nilV := by
  refine ⟨World.rowIs_alloc w _ 43 nilV (fun i hi => ?_), fun i hi => ?_, fun i hi => by simp [nilV, Value.ownBlock], fun i j k hi hj h1 => by simp [nilV, Value.ownBlock] at h1⟩
  · rcases eight i hi with rfl | rfl | rfl | rfl | rfl | rfl | rfl | rfl <;> rfl
  · exact World.ownsRow_nil _ 0 _ 1

theorem two_new (w : World) : Two w ((w.alloc (.cells #[.slice none 0 0, .slice none 0 0, .slice none 0 0, .slice none 0 0, .slice none 0 0, .slice none 0 0, .slice none 0 0, .slice none 0 0] 43)).alloc
    (.cells #[.slice none 0 0, .slice none 0 0, .slice none 0 0, .slice none 0 0, .slice none 0 0, .slice none 0 0, .slice none 0 0, .slice none 0 0] 43)) w.heap.size (w.heap.size + 1) (fun _ => []) (fun _ => []) nilV nilV := by
  have hf : ∀ p k, Foot p nilV k → k = p := fun p k h => by
    rcases h with h | ⟨i, _, h⟩
    · exact h
    · simp [nilV, Value.ownBlock] at h
  have h1 := msg_new w
  have h2 := msg_new (w.alloc (.cells #[.slice none 0 0, .slice none 0 0, .slice none 0 0, .slice none 0 0, .slice none 0 0, .slice none 0 0, .slice none 0 0, .slice none 0 0] 43))
  have hs : (w.alloc (.cells #[.slice none 0 0, .slice none 0 0, .slice none 0 0, .slice none 0 0, .slice none 0 0, .slice none 0 0, .slice none 0 0, .slice none 0 0] 43)).heap.size = w.heap.size + 1 := by simp
  rw [hs] at h2
  refine ⟨h1.chg (F := No) ((Chg.refl _ _).alloc _) (fun _ _ hf => hf), h2, fun k hk hq => ?_, fun k hk => ?_, fun k hk => ?_, ((Chg.refl _ _).alloc _).alloc _⟩
  · have := hf _ k hk; have := hf _ k hq; omega
  · have := hf _ k hk; omega
  · have := hf _ k hk; omega

theorem Mp_zero (xs : List Int) : Mp xs 0 0 = fun _ => [] := by
  funext i
  simp [Mp]

theorem RowTo.nil_chg {w w1 : World} {v' : Value} {L : List Int} (h : RowTo w w1 (.slice none 0 0) v' L) : Chg No w w1 := h.chg.mono (fun b _ hf => by simp [Value.ownBlock] at hf)

theorem upd_of_row {w w1 : World} {p : Nat} {M : Nat → List Value} {V : Nat → Value} {v' : Value} {L : List Int} (h : MsgAt w p M V) (hR : RowTo w w1 (.slice none 0 0) v' L) : Upd w (w1.setCell ⟨p, 7, none⟩ v') p V (setF M 7 (bytes L)) := by
  have hc := hR.nil_chg
  refine Upd.store h (Chg.refl _ _) 7 (by decide) v' (bytes L) hR.row ⟨hc.os, hc.tape, hc.output, hc.size, fun k hk _ => hc.block k hk (fun hf => hf)⟩ (fun g hg => ?_)
  rcases hR.lies g hg with e | e
  · simp [Value.ownBlock] at e
  · exact .inr e

theorem blk_of_row {w w1 : World} {p : Nat} {M : Nat → List Value} {V : Nat → Value} {v' : Value} {L : List Int} (h : MsgAt w p M V) (hR : RowTo w w1 (.slice none 0 0) v' L) : w1.rowIs p 43 8 V :=
  (h.chg hR.nil_chg (fun _ _ hf => hf)).blk

theorem nil_row (w : World) : RowTo w w (.slice none 0 0) (.slice none 0 0) [] := RowTo.refl (World.ownsRow_nil w 0 5 1)

def priorM (ps pu : List Int) : Nat → List Value := fun i => if i < 7 then ps.map (val i) else if i = 7 then bytes pu else []

set_option maxHeartbeats 1600000 in
set_option maxRecDepth 100000 in
theorem prior_any (v0 v1 : Value) (ps pu : List Int) (w : World) (h0 : SrcV w v0 (ps.map (Value.int .u64))) (h1 : SrcV w v1 (bytes pu)) (hps : ps.length ≤ 1024) (hpu : pu.length ≤ 1024) :
    Calls Ybaf.prog 6 #[v0, v1] w fun e w' => e = .returned (.tuple #[.pointer (some ⟨w.heap.size, 0, none⟩), .pointer (some ⟨w.heap.size + 1, 0, none⟩)]) ∧
      ∃ V U, Two w w' w.heap.size (w.heap.size + 1) (priorM ps pu) (priorM ps pu) V U := by
  obtain ⟨a0, c0, b0, off0, rfl, hlc0, hx0, hcell0⟩ := h0.form
  clear hlc0
  rw [List.length_map] at hx0 hcell0 ⊢
  go_enter Ybaf.func6, Ybaf.ntmps6
  go_wp2_with fail
  have HT : Hid (∃ V U, Two w ((w.alloc (.cells #[.slice none 0 0, .slice none 0 0, .slice none 0 0, .slice none 0 0, .slice none 0 0, .slice none 0 0, .slice none 0 0, .slice none 0 0] 43)).alloc
    (.cells #[.slice none 0 0, .slice none 0 0, .slice none 0 0, .slice none 0 0, .slice none 0 0, .slice none 0 0, .slice none 0 0, .slice none 0 0] 43)) w.heap.size (w.heap.size + 1) (Mp ps 0 0) (Mp ps 0 0) V U) := ⟨nilV, nilV, by rw [Mp_zero]; exact two_new w⟩
  go_loopg [17] ps.length (fun g t wr => ∃ k : Nat, k ≤ ps.length ∧ g = ps.length - k ∧ t = .int .i64 k ∧ ∃ V U, Two w wr w.heap.size (w.heap.size + 1) (Mp ps k 0) (Mp ps k 0) V U)
  case atStart => exact ⟨0, Nat.zero_le _, rfl, rfl, HT.out⟩
  case round =>
    clear HT
    obtain ⟨k, hk, rfl, rfl, V, U, hT⟩ := hrel
    by_cases hlt : k < ps.length
    · have hltz : (k : Int) < (ps.length : Int) := by omega
      obtain rfl := hx0 (by omega)
      have hcc := hcell0 k hlt
      have hb0 : b0 < w.heap.size := by
        rw [List.getElem?_map, List.getElem?_eq_getElem hlt] at hcc
        exact World.block_lt_of_cell? _ _ hcc
      have g0 : wr.cell? ⟨b0, off0 + k, none⟩ = some (.int .u64 ps[k]) := by
        rw [hT.chg.cell (a := ⟨b0, off0 + k, none⟩) hb0 (fun hf => hf), hcc, List.getElem?_map, List.getElem?_eq_getElem hlt]; rfl
      clear hcc
      have HS := fun j hj => Mp_step ps k j hj hlt
      have HSH : Hid (∀ j, j < 7 → put (Mp ps k j) j [val j ps[k]] = Mp ps k (j + 1)) := HS
      clear HS
      generalize ps[k] = x at *
      go_wp2_with fail
      go_loopg [10] 7 (fun g t wx => ∃ j : Nat, j ≤ 7 ∧ g = 7 - j ∧ t = .int .i64 j ∧ ∃ V U, Two w wx w.heap.size (w.heap.size + 1) (Mp ps k j) (Mp ps k j) V U)
      case atStart => exact ⟨0, by omega, rfl, rfl, V, U, hT⟩
      case round =>
        clear hT g0
        obtain ⟨j, hj, rfl, rfl, V, U, hT⟩ := hrel
        by_cases hj7 : j < 7
        · have hj7z : (j : Int) < 7 := by omega
          go_wp2_with fail
          refine (put_any j hj7 w.heap.size (Mp ps k j) V x _ hT.fst (by have := Mp_len ps k j j; omega)).mono ?_
          rintro e w1 ⟨rfl, hu⟩
          obtain ⟨V1, hT1⟩ := hT.updP hu
          clear hu hT
          go_wp2_with fail
          refine (put_any j hj7 (w.heap.size + 1) (Mp ps k j) U x _ hT1.snd (by have := Mp_len ps k j j; omega)).mono ?_
          rintro e w2 ⟨rfl, hu⟩
          obtain ⟨U1, hT2⟩ := hT1.updQ hu
          clear hu hT1
          rw [HSH.out j hj7] at hT2
          go_wp2_with fail
          go_roundg (7 - (j + 1))
          case measure => omega
          case rel => exact ⟨j + 1, by omega, rfl, by go_num, V1, U1, hT2⟩
        · have hj7e : j = 7 := by omega
          subst hj7e
          rw [Mp_next] at hT
          go_wp2_with fail
          go_roundg (ps.length - (k + 1))
          case measure => omega
          case rel => exact ⟨k + 1, by omega, rfl, by go_num, V, U, hT⟩
    · have hke : k = ps.length := by omega
      subst hke
      have hM : setF (Mp ps ps.length 0) 7 (bytes ([] ++ pu)) = priorM ps pu := by
        funext i
        simp only [setF, priorM, Mp, List.nil_append]
        by_cases e : i = 7
        · subst e; simp
        · simp only [e, if_false]
          by_cases h7 : i < 7
          · simp [h7]
          · simp [h7]
      have HM : Hid (setF (Mp ps ps.length 0) 7 (bytes ([] ++ pu)) = priorM ps pu) := hM
      clear hM hlt hk hcell0 hx0
      go_wp2_with (first
        | (at_builtin; refine wpList_row_append_src rfl _ _ rfl _ _ [] rfl (nil_row wr) _ pu rfl (h1.later hT.chg) pu.length (by simp) (by omega) ?_; intro a1 cap1 w1 hR1; have hb1 := blk_of_row hT.fst hR1; have hc1 := hb1.cell (i := 7) (by decide); have hf1 := hb1.frozen 7; clear hb1)
        | (at_builtin; obtain ⟨V1, hT1⟩ := hT.updP (upd_of_row hT.fst hR1); refine wpList_row_append_src rfl _ _ rfl _ _ [] rfl (nil_row _) _ pu rfl (h1.later hT1.chg) pu.length (by simp) (by omega) ?_; intro a2 cap2 w2 hR2; have hb2 := blk_of_row hT1.snd hR2; have hc2 := hb2.cell (i := 7) (by decide); have hf2 := hb2.frozen 7; clear hb2))
      obtain ⟨U2, hT2⟩ := hT1.updQ (upd_of_row hT1.snd hR2)
      rw [HM.out] at hT2
      go_ret2
      exact ⟨rfl, V1, U2, hT2⟩

end Go.Proofs.YbulkcbpgFmt
