/-
  Seat b3893aF: LawS3893BDecode walked.
-/
import Derived.Test.YbulkcbpgFmtMjn
import Derived.Test.YbulkcbpgFmtEqm
import Derived.Test.YbulkcbpgFmtBuild
namespace Go.Proofs.YbulkcbpgFmt
open Go.RowKit Go.Deep
set_option linter.unusedVariables false

theorem val_fits (i : Nat) (v : Int) (hi : i < 7) : Fits i (val i v) := by
  rcases seven i hi with rfl | rfl | rfl | rfl | rfl | rfl | rfl <;> exact ⟨_, rfl⟩

theorem bytes_fits (L : List Int) : ∀ x ∈ bytes L, Fits 7 x := fun x hx => by
  obtain ⟨n, _, rfl⟩ := List.mem_map.1 hx
  exact ⟨n, rfl⟩

def AllFit (M : Nat → List Value) : Prop := ∀ i, i < 8 → ∀ x ∈ M i, Fits i x

theorem AllFit.put {M : Nat → List Value} (h : AllFit M) (i : Nat) (ys : List Value) (hy : ∀ x ∈ ys, Fits i x) : AllFit (put M i ys) := fun j hj x hx => by
  unfold YbulkcbpgFmt.put setF at hx
  split at hx
  · rename_i e
    subst e
    rcases List.mem_append.1 hx with hx | hx
    · exact h j hj x hx
    · exact hy x hx
  · exact h j hj x hx

theorem prior_fits (ps pu : List Int) : AllFit (priorM ps pu) := fun i hi x hx => by
  unfold priorM at hx
  split at hx
  · rename_i h7
    obtain ⟨n, _, rfl⟩ := List.mem_map.1 hx
    exact val_fits i n h7
  · split at hx
    · rename_i e
      subst e
      exact bytes_fits pu x hx
    · cases hx

theorem eff_fits (d : Nat) (x : SOp) {M : Nat → List Value} (h : AllFit M) : AllFit (eff d x M) := by
  unfold eff
  split
  · rename_i h7
    exact h.put _ _ (fun y hy => by rcases List.mem_singleton.1 hy with rfl; exact val_fits _ _ h7)
  · split
    · rename_i h7 h14
      exact h.put _ _ (fun y hy => by obtain ⟨n, _, rfl⟩ := List.mem_map.1 hy; exact val_fits _ _ (by omega))
    · exact h.put _ _ (bytes_fits _)

theorem effs_fits (d : Nat) (xs : List SOp) : ∀ {M : Nat → List Value}, AllFit M → AllFit (effs d xs M) := by
  induction xs with
  | nil => intro M h; exact h
  | cons x xs ih => intro M h; exact ih (eff_fits d x h)

theorem prior_len (ps pu : List Int) (h1 : ps.length ≤ 1024) (h2 : pu.length ≤ 1024) (i : Nat) : (priorM ps pu i).length ≤ 2048 := by
  unfold priorM
  split
  · rw [List.length_map]; omega
  · split
    · rw [bytes_length]; omega
    · simp

theorem BRow.rd {w : World} {v : Value} {L : List Int} (h : BRow w v L) (g0 : Nat) : ∃ g, RdV w g v L ∧ (g = g0 ∨ v.ownBlock = some g) := by
  rcases h.2 with ⟨rfl, h2⟩ | ⟨g, cap, cur, rfl, hg, hh, hl, hm, hs, ht⟩
  · have : L = [] := List.length_eq_zero_iff.1 (by rw [← bytes_length]; exact h2)
    subst this
    exact ⟨g0, RdV.nil _ _ _ _, .inl rfl⟩
  · refine ⟨g, ⟨_, cap, 0, by rw [bytes_length], by rw [← bytes_length]; exact hl, fun _ => rfl, fun j hj => ?_⟩, .inr rfl⟩
    have ht' : cur.toList.take L.length = bytes L := by rw [Nat.mul_one, bytes_length] at ht; exact ht
    have e1 : cur.toList[j]? = some (.int .u8 L[j]) := by
      have : (bytes L)[j]? = some (.int .u8 L[j]) := by
        unfold bytes
        rw [List.getElem?_map, List.getElem?_eq_getElem hj]; rfl
      rw [← this, ← ht', List.getElem?_take, if_pos hj]
    have := World.news_of_block hh j _ e1
    have e : (⟨g, 0, none⟩ : Addr).add j = ⟨g, 0 + j, none⟩ := by
      unfold Addr.add
      split <;> simp_all
    rw [e] at this
    exact this

set_option maxHeartbeats 2000000 in
theorem decode_any (v0 v1 v2 : Value) (ops : List SOp) (ps pu : List Int) (t : Int) (w : World) (h0 : OpsAt w v0 ops) (h1 : SrcV w v1 (ps.map (Value.int .u64))) (h2 : SrcV w v2 (bytes pu)) (hok : ∀ x ∈ ops, okOp x) (ht0 : 0 ≤ t) (ht1 : t ≤ 255) :
    Calls Ybaf.prog 3 #[v0, v1, v2, .int .u8 t] w fun e w' => e = .returned (.bool true) ∧ Chg No w w' := by
  obtain ⟨a0, c0, b0, off0, e0, _⟩ := id h0
  obtain ⟨a1, c1, b1, off1, e1, _⟩ := h1.form
  obtain ⟨a2, c2, b2, off2, e2, _⟩ := h2.form
  rw [List.length_map] at e1
  rw [bytes_length] at e2
  by_cases hs : ops.length ≤ 1024 ∧ ps.length ≤ 1024 ∧ pu.length ≤ 1024
  · obtain ⟨hs0, hs1, hs2⟩ := hs
    obtain ⟨d, hd⟩ : ∃ d : Nat, t % 4 = d := ⟨(t % 4).toNat, by omega⟩
    have hd3 : d ≤ 3 := by omega
    have hpr := prior_any v1 v2 ps pu w h1 h2 hs1 hs2
    have z0 : ¬ (1024 : Int) < (ops.length : Int) := by omega
    have z1 : ¬ (1024 : Int) < (ps.length : Int) := by omega
    have z2 : ¬ (1024 : Int) < (pu.length : Int) := by omega
    have hbd := fun N U w1 hm hN hI hf => build_any w v0 ops d (w.heap.size + 1) N U w1 h0 hok hs0 hd3 hm hN hI hf
    subst e0 e1 e2
    go_enter Ybaf.func3, Ybaf.ntmps3
    go_wp2_with fail
    refine hpr.mono ?_
    rintro e w1 ⟨rfl, V, U, hT⟩
    go_wp2_with fail
    refine (hbd _ U _ hT.snd (prior_len ps pu hs1 hs2) hT.chg hT.freshQ).mono ?_
    rintro e w2 ⟨v', rfl, U', hB⟩
    have hm2 : MsgAt w2 w.heap.size (priorM ps pu) V := hT.fst.chg hB.chg (fun k hk hq => hT.apart k hk hq)
    obtain ⟨g, hrd, hg⟩ := hB.row.rd (w.heap.size + 1)
    have hz2 := hB.chg.size
    have hgl : g < w2.heap.size ∧ ¬ Foot w.heap.size V g := by
      rcases hg with rfl | hg
      · exact ⟨hB.msg.foot_lt (.inl rfl), fun hf => hT.apart _ hf (.inl rfl)⟩
      · refine ⟨hB.row.lt hg, fun hf => ?_⟩
        have := (hB.fresh g hg).1
        have := hT.fst.foot_lt hf
        omega
    go_wp2_with fail
    refine (merge_any w2 w.heap.size g d v' ops (priorM ps pu) V hm2 hrd hgl.1 hgl.2 hok hs0 hd3 (prior_len ps pu hs1 hs2)).mono ?_
    rintro e w3 ⟨rfl, V', hm3, hc3⟩
    have hq3 : MsgAt w3 (w.heap.size + 1) (effs d ops (priorM ps pu)) U' := hB.msg.chg hc3 (fun k hk hp => by
      rcases hB.foot k hk with e | e
      · exact hT.apart k hp e
      · have := hT.fst.foot_lt hp; omega)
    have hl3 : ∀ i, (effs d ops (priorM ps pu) i).length ≤ 1099511627776 := fun i => by have := effs_len d ops (priorM ps pu) i; have := prior_len ps pu hs1 hs2 i; omega
    have hfit := effs_fits d ops (prior_fits ps pu)
    have hch : Chg No w w3 := by
      have h12 : Chg No w w2 := hT.chg.trans hB.chg (fun b hb hF => by have := hT.freshQ b hF; omega)
      exact h12.trans hc3 (fun b hb hF => by have := hT.freshP b hF; omega)
    go_wp2_with fail
    refine (eq_any w.heap.size (w.heap.size + 1) _ V' U' w3 hm3 hq3 hfit hl3).mono ?_
    rintro e w4 ⟨rfl, k4, rfl⟩
    go_wp2_with fail
    go_ret
    exact ⟨rfl, hch.drewN k4⟩
  · subst e0 e1 e2
    by_cases z0 : (1024 : Int) < (ops.length : Int)
    · go_enter Ybaf.func3, Ybaf.ntmps3
      go_wp2
      go_ret
      exact ⟨rfl, Chg.refl _ _⟩
    · by_cases z1 : (1024 : Int) < (ps.length : Int)
      · go_enter Ybaf.func3, Ybaf.ntmps3
        go_wp2
        go_ret
        exact ⟨rfl, Chg.refl _ _⟩
      · have z2 : (1024 : Int) < (pu.length : Int) := by omega
        go_enter Ybaf.func3, Ybaf.ntmps3
        go_wp2
        go_ret
        exact ⟨rfl, Chg.refl _ _⟩

end Go.Proofs.YbulkcbpgFmt
