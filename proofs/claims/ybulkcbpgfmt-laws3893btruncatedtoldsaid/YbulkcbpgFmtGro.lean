/-
  Seat b3893aF: slices.Grow at the seven element types.
-/
import Derived.Test.YbulkcbpgFmtScript
import Derived.Lib.AppendZerosOnto
import Derived.Lib.SliceRun
import Derived.Lib.Walk
namespace Go.Proofs.YbulkcbpgFmt
open Go.RowKit Go.Deep
set_option linter.unusedVariables false

/-- The room of a row: its form, and all its cells. -/
theorem row_cells {w : World} {e : TypeId} {v : Value} {xs : List Value} (h : Row w e v xs) :
    (v = .slice none 0 0 ∧ xs = []) ∨ ∃ g cap cur, v = .slice (some ⟨g, 0, none⟩) xs.length cap ∧ w.heap[g]? = some (.cells cur e (0, 0)) ∧ xs.length ≤ cap ∧ cap ≤ maxLen ∧ cur.size = cap ∧ cur.toList.take xs.length = xs := by
  rcases h.2 with ⟨h1, h2⟩ | ⟨g, cap, cur, hv, hg, hh, hl, hm, hs, ht⟩
  · exact .inl ⟨h1, List.length_eq_zero_iff.1 h2⟩
  · exact .inr ⟨g, cap, cur, hv, hh, hl, hm, by omega, by simpa using ht⟩

/-- What a grown slice is: the same elements, in the old row or in a new one. -/
structure Grew (w w' : World) (e : TypeId) (v v' : Value) (xs : List Value) : Prop where
  row : Row w' e v' xs
  chg : Chg No w w'
  lies : ∀ g, v'.ownBlock = some g → v.ownBlock = some g ∨ w.heap.size ≤ g

theorem Grew.same {w : World} {e : TypeId} {v : Value} {xs : List Value} (h : Row w e v xs) : Grew w w e v v xs := ⟨h, Chg.refl _ _, fun _ hg => .inl hg⟩

theorem Grew.new {w : World} {e : TypeId} {v z : Value} {xs cs : List Value} {l n c G : Nat} (hl : xs.length = l) (hlc : l ≤ c) (hcl : cs.length = c) (hct : cs.take l = xs) (hz : z.cells = #[z]) (hcn : c ≤ n) (hG : n ≤ G) (hGm : G ≤ maxLen) :
    Grew w (w.drew.alloc (.cells (cs.toArray ++ Builtin.zeroCells z.cells (n - c) ++ Builtin.zeroCells z.cells (G - n)) e)) e v (.slice (some ⟨w.heap.size, 0, none⟩) l G) xs := by
  subst hl
  have hz' : ∀ k, (Builtin.zeroCells z.cells k).size = k := fun k => by rw [hz]; simp [Builtin.zeroCells]
  refine ⟨⟨by simp, .inr ⟨w.heap.size, G, _, rfl, Nat.zero_le _, heap_alloc_new w.drew _, by omega, hGm, ?_, ?_⟩⟩, (Chg.refl No w).drew.alloc _, fun g hg => ?_⟩
  · simp only [Array.size_append, hz', List.size_toArray]; omega
  · simp only [Array.toList_append, Nat.mul_one]
    rw [List.append_assoc, List.take_append_of_le_length (by omega), hct]
  · simp only [Value.ownBlock, Option.some.injEq] at hg
    exact .inr (by omega)

/-- The model's run of the append of a make, on one of our rows. -/
theorem zeros_run (i : Nat) (hi : i < 8) (w : World) (base : Option Addr) (l c n : Nat) (cs : List Value) (hroom : c < l + n) (hbig : l + n ≤ 1099511627776)
    (hcl : cs.length = c) (hnil : base = none → c = 0) (hcs : ∀ a, base = some a → ∀ j v, cs[j]? = some v → w.cell? (a.add j) = some v) :
    ∃ z : Value, z.cells = #[z] ∧ ∀ ty, (Builtin.append_ #[Sl i, 3] ty #[.slice base c c, .int .i64 ((n : Int) - ((c : Int) - (l : Int)))]).run Ybaf.prog w =
      .ok (.slice (some ⟨w.heap.size, 0, none⟩) (l + n) (grownCap w (l + n) c (El i))) (w.drew.alloc (.cells (cs.toArray ++ Builtin.zeroCells z.cells (l + n - c) ++ Builtin.zeroCells z.cells (grownCap w (l + n) c (El i) - (l + n))) (El i))) := by
  obtain ⟨inf, z, b, hinf, hz, hsz, hby, hz1, hb0, hb8⟩ := el_info i hi
  refine ⟨z, hz1, fun ty => ?_⟩
  have hold : (Builtin.firstCells inf.size c (.slice base c c)).run Ybaf.prog w.drew = .ok cs.toArray w.drew := by
    cases base with
    | none =>
      have h0 := hnil rfl
      subst h0
      have hc0 : cs = [] := List.length_eq_zero_iff.1 hcl
      rw [hc0]
      exact run_firstCells_none w.drew inf.size 0 0 0
    | some a => exact run_firstCells_some w.drew inf.size c a c c cs (by rw [hcl, hsz]; omega) (fun j v hj => hcs a rfl j v hj)
  have hck : c + (l + n - c) = l + n := by omega
  have hB : (l + n) * inf.bytes ≤ 1099511627776 * 8 := Nat.mul_le_mul hbig (by omega)
  have hB2 : (l + n - c) * inf.bytes ≤ (l + n) * inf.bytes := Nat.mul_le_mul_right _ (by omega)
  have h := Lib.run_append_grow_zeros w (Sl i) 3 ty (El i) inf z .i64 .i64 (sl_under i hi) Ybaf.underlying3 hinf hz base c c cs hold (l + n - c) (by omega) (by omega) (by omega) (by omega) (by omega)
      (by rw [hck]; exact growslice_fits hroom (by omega))
  rw [hck] at h
  rw [show (n : Int) - ((c : Int) - (l : Int)) = ((l + n - c : Nat) : Int) by omega]
  exact h


set_option maxHeartbeats 1000000 in
theorem grow0_room (base : Option Addr) (l c n : Nat) (w : World) (hlc : l ≤ c) (hc63 : c ≤ 9223372036854775807) (hn63 : n ≤ 9223372036854775807) (hroom : l + n ≤ c) :
    Calls Ybaf.prog 22 #[.slice base l c, .int .i64 n] w fun e w' => e = .returned (.slice base l c) ∧ w' = w := by
  have h1 : ¬ ((n : Int) < 0) := by omega
  have h4 : ¬ ((n : Int) - ((c : Int) - (l : Int)) > 0) := by omega
  go_enter Ybaf.func22, Ybaf.ntmps22
  go_wp2_with fail
  go_ret
  exact ⟨rfl, rfl⟩

set_option maxHeartbeats 1000000 in
theorem grow0_more (base : Option Addr) (l c n m : Nat) (hm : m = l + n) (G : Nat) (w : World) (o : Obj) (hlc : l ≤ c) (hroom : c < m) (hbig : m ≤ 1099511627776) (hG : m ≤ G) (hGm : G ≤ maxLen) (hnil : base = none → c = 0)
    (hrz : ∀ ty, (Builtin.append_ #[36, 3] ty #[.slice base c c, .int .i64 ((n : Int) - ((c : Int) - (l : Int)))]).run Ybaf.prog w =
      .ok (.slice (some ⟨w.heap.size, 0, none⟩) m G) (w.drew.alloc o)) :
    Calls Ybaf.prog 22 #[.slice base l c, .int .i64 n] w fun e w' => e = .returned (.slice (some ⟨w.heap.size, 0, none⟩) l G) ∧ w' = w.drew.alloc o := by
  have h1 : ¬ ((n : Int) < 0) := by omega
  have h4 : (n : Int) - ((c : Int) - (l : Int)) > 0 := by omega
  have hlG : l ≤ G := by omega
  have hG63 : G ≤ 9223372036854775807 := by unfold maxLen at hGm; omega
  have hn63 : n ≤ 9223372036854775807 := by omega
  have hc63 : c ≤ 9223372036854775807 := by omega
  clear hm
  go_enter Ybaf.func22, Ybaf.ntmps22
  cases base with
  | none =>
    have h0 := hnil rfl
    subst h0
    obtain rfl : l = 0 := by omega
    go_wp2_with (at_builtin; refine Lib.wpList_append_run _ rfl _ _ _ _ rfl _ _ rfl rfl _ _ (hrz _) ?_)
    all_goals (go_ret; exact ⟨rfl, rfl⟩)
  | some a =>
    obtain ⟨ab, ao, asp⟩ := a
    go_wp2_with (at_builtin; refine Lib.wpList_append_run _ rfl _ _ _ _ rfl _ _ rfl rfl _ _ (hrz _) ?_)
    all_goals (go_ret; exact ⟨rfl, rfl⟩)

theorem grow0_any (v : Value) (xs : List Value) (n : Nat) (w : World) (h : Row w (El 0) v xs) (hb : xs.length + n ≤ 1099511627776) :
    Calls Ybaf.prog 22 #[v, .int .i64 n] w fun e w' => ∃ v', e = .returned v' ∧ Grew w w' (El 0) v v' xs := by
  rcases row_cells h with ⟨rfl, rfl⟩ | ⟨g, cap, cur, rfl, hh, hl, hm, hs, ht⟩
  · by_cases hn : 0 + n ≤ 0
    · refine (grow0_room none 0 0 n w (by omega) (by omega) (by omega) hn).mono ?_
      rintro e w' ⟨rfl, rfl⟩
      exact ⟨_, rfl, Grew.same h⟩
    · obtain ⟨z, hz, hrz⟩ := zeros_run 0 (by omega) w none 0 0 n [] (by omega) (by simpa using hb) rfl (fun _ => rfl) (fun a ha => by cases ha)
      refine (grow0_more none 0 0 n (0 + n) rfl (grownCap w (0 + n) 0 (El 0)) w _ (by omega) (by omega) (by simpa using hb) (grownCap_ge w _ _ _) (grownCap_le_maxLen w _ _ _ (by unfold maxLen; simp at hb; omega)) (fun _ => rfl) hrz).mono ?_
      rintro e w' ⟨rfl, rfl⟩
      exact ⟨_, rfl, Grew.new rfl (by omega) rfl rfl hz (by omega) (grownCap_ge w _ _ _) (grownCap_le_maxLen w _ _ _ (by unfold maxLen; simp at hb; omega))⟩
  · by_cases hn : xs.length + n ≤ cap
    · refine (grow0_room _ _ cap n w hl (by unfold maxLen at hm; omega) (by omega) hn).mono ?_
      rintro e w' ⟨rfl, rfl⟩
      exact ⟨_, rfl, Grew.same h⟩
    · obtain ⟨z, hz, hrz⟩ := zeros_run 0 (by omega) w (some ⟨g, 0, none⟩) xs.length cap n cur.toList (by omega) hb (by simpa using hs) (fun h => by cases h) (fun a ha j v hv => by
        obtain rfl := Option.some.inj ha
        exact World.news_of_block hh j v hv)
      refine (grow0_more _ xs.length cap n _ rfl (grownCap w (xs.length + n) cap (El 0)) w _ hl (by omega) hb (grownCap_ge w _ _ _) (grownCap_le_maxLen w _ _ _ (by unfold maxLen; omega)) (fun h => by cases h) hrz).mono ?_
      rintro e w' ⟨rfl, rfl⟩
      exact ⟨_, rfl, Grew.new rfl hl (by simpa using hs) ht hz (by omega) (grownCap_ge w _ _ _) (grownCap_le_maxLen w _ _ _ (by unfold maxLen; omega))⟩

set_option maxHeartbeats 1000000 in
theorem grow1_room (base : Option Addr) (l c n : Nat) (w : World) (hlc : l ≤ c) (hc63 : c ≤ 9223372036854775807) (hn63 : n ≤ 9223372036854775807) (hroom : l + n ≤ c) :
    Calls Ybaf.prog 25 #[.slice base l c, .int .i64 n] w fun e w' => e = .returned (.slice base l c) ∧ w' = w := by
  have h1 : ¬ ((n : Int) < 0) := by omega
  have h4 : ¬ ((n : Int) - ((c : Int) - (l : Int)) > 0) := by omega
  go_enter Ybaf.func25, Ybaf.ntmps25
  go_wp2_with fail
  go_ret
  exact ⟨rfl, rfl⟩

set_option maxHeartbeats 1000000 in
theorem grow1_more (base : Option Addr) (l c n m : Nat) (hm : m = l + n) (G : Nat) (w : World) (o : Obj) (hlc : l ≤ c) (hroom : c < m) (hbig : m ≤ 1099511627776) (hG : m ≤ G) (hGm : G ≤ maxLen) (hnil : base = none → c = 0)
    (hrz : ∀ ty, (Builtin.append_ #[37, 3] ty #[.slice base c c, .int .i64 ((n : Int) - ((c : Int) - (l : Int)))]).run Ybaf.prog w =
      .ok (.slice (some ⟨w.heap.size, 0, none⟩) m G) (w.drew.alloc o)) :
    Calls Ybaf.prog 25 #[.slice base l c, .int .i64 n] w fun e w' => e = .returned (.slice (some ⟨w.heap.size, 0, none⟩) l G) ∧ w' = w.drew.alloc o := by
  have h1 : ¬ ((n : Int) < 0) := by omega
  have h4 : (n : Int) - ((c : Int) - (l : Int)) > 0 := by omega
  have hlG : l ≤ G := by omega
  have hG63 : G ≤ 9223372036854775807 := by unfold maxLen at hGm; omega
  have hn63 : n ≤ 9223372036854775807 := by omega
  have hc63 : c ≤ 9223372036854775807 := by omega
  clear hm
  go_enter Ybaf.func25, Ybaf.ntmps25
  cases base with
  | none =>
    have h0 := hnil rfl
    subst h0
    obtain rfl : l = 0 := by omega
    go_wp2_with (at_builtin; refine Lib.wpList_append_run _ rfl _ _ _ _ rfl _ _ rfl rfl _ _ (hrz _) ?_)
    all_goals (go_ret; exact ⟨rfl, rfl⟩)
  | some a =>
    obtain ⟨ab, ao, asp⟩ := a
    go_wp2_with (at_builtin; refine Lib.wpList_append_run _ rfl _ _ _ _ rfl _ _ rfl rfl _ _ (hrz _) ?_)
    all_goals (go_ret; exact ⟨rfl, rfl⟩)

theorem grow1_any (v : Value) (xs : List Value) (n : Nat) (w : World) (h : Row w (El 1) v xs) (hb : xs.length + n ≤ 1099511627776) :
    Calls Ybaf.prog 25 #[v, .int .i64 n] w fun e w' => ∃ v', e = .returned v' ∧ Grew w w' (El 1) v v' xs := by
  rcases row_cells h with ⟨rfl, rfl⟩ | ⟨g, cap, cur, rfl, hh, hl, hm, hs, ht⟩
  · by_cases hn : 0 + n ≤ 0
    · refine (grow1_room none 0 0 n w (by omega) (by omega) (by omega) hn).mono ?_
      rintro e w' ⟨rfl, rfl⟩
      exact ⟨_, rfl, Grew.same h⟩
    · obtain ⟨z, hz, hrz⟩ := zeros_run 1 (by omega) w none 0 0 n [] (by omega) (by simpa using hb) rfl (fun _ => rfl) (fun a ha => by cases ha)
      refine (grow1_more none 0 0 n (0 + n) rfl (grownCap w (0 + n) 0 (El 1)) w _ (by omega) (by omega) (by simpa using hb) (grownCap_ge w _ _ _) (grownCap_le_maxLen w _ _ _ (by unfold maxLen; simp at hb; omega)) (fun _ => rfl) hrz).mono ?_
      rintro e w' ⟨rfl, rfl⟩
      exact ⟨_, rfl, Grew.new rfl (by omega) rfl rfl hz (by omega) (grownCap_ge w _ _ _) (grownCap_le_maxLen w _ _ _ (by unfold maxLen; simp at hb; omega))⟩
  · by_cases hn : xs.length + n ≤ cap
    · refine (grow1_room _ _ cap n w hl (by unfold maxLen at hm; omega) (by omega) hn).mono ?_
      rintro e w' ⟨rfl, rfl⟩
      exact ⟨_, rfl, Grew.same h⟩
    · obtain ⟨z, hz, hrz⟩ := zeros_run 1 (by omega) w (some ⟨g, 0, none⟩) xs.length cap n cur.toList (by omega) hb (by simpa using hs) (fun h => by cases h) (fun a ha j v hv => by
        obtain rfl := Option.some.inj ha
        exact World.news_of_block hh j v hv)
      refine (grow1_more _ xs.length cap n _ rfl (grownCap w (xs.length + n) cap (El 1)) w _ hl (by omega) hb (grownCap_ge w _ _ _) (grownCap_le_maxLen w _ _ _ (by unfold maxLen; omega)) (fun h => by cases h) hrz).mono ?_
      rintro e w' ⟨rfl, rfl⟩
      exact ⟨_, rfl, Grew.new rfl hl (by simpa using hs) ht hz (by omega) (grownCap_ge w _ _ _) (grownCap_le_maxLen w _ _ _ (by unfold maxLen; omega))⟩

set_option maxHeartbeats 1000000 in
theorem grow2_room (base : Option Addr) (l c n : Nat) (w : World) (hlc : l ≤ c) (hc63 : c ≤ 9223372036854775807) (hn63 : n ≤ 9223372036854775807) (hroom : l + n ≤ c) :
    Calls Ybaf.prog 26 #[.slice base l c, .int .i64 n] w fun e w' => e = .returned (.slice base l c) ∧ w' = w := by
  have h1 : ¬ ((n : Int) < 0) := by omega
  have h4 : ¬ ((n : Int) - ((c : Int) - (l : Int)) > 0) := by omega
  go_enter Ybaf.func26, Ybaf.ntmps26
  go_wp2_with fail
  go_ret
  exact ⟨rfl, rfl⟩

set_option maxHeartbeats 1000000 in
theorem grow2_more (base : Option Addr) (l c n m : Nat) (hm : m = l + n) (G : Nat) (w : World) (o : Obj) (hlc : l ≤ c) (hroom : c < m) (hbig : m ≤ 1099511627776) (hG : m ≤ G) (hGm : G ≤ maxLen) (hnil : base = none → c = 0)
    (hrz : ∀ ty, (Builtin.append_ #[38, 3] ty #[.slice base c c, .int .i64 ((n : Int) - ((c : Int) - (l : Int)))]).run Ybaf.prog w =
      .ok (.slice (some ⟨w.heap.size, 0, none⟩) m G) (w.drew.alloc o)) :
    Calls Ybaf.prog 26 #[.slice base l c, .int .i64 n] w fun e w' => e = .returned (.slice (some ⟨w.heap.size, 0, none⟩) l G) ∧ w' = w.drew.alloc o := by
  have h1 : ¬ ((n : Int) < 0) := by omega
  have h4 : (n : Int) - ((c : Int) - (l : Int)) > 0 := by omega
  have hlG : l ≤ G := by omega
  have hG63 : G ≤ 9223372036854775807 := by unfold maxLen at hGm; omega
  have hn63 : n ≤ 9223372036854775807 := by omega
  have hc63 : c ≤ 9223372036854775807 := by omega
  clear hm
  go_enter Ybaf.func26, Ybaf.ntmps26
  cases base with
  | none =>
    have h0 := hnil rfl
    subst h0
    obtain rfl : l = 0 := by omega
    go_wp2_with (at_builtin; refine Lib.wpList_append_run _ rfl _ _ _ _ rfl _ _ rfl rfl _ _ (hrz _) ?_)
    all_goals (go_ret; exact ⟨rfl, rfl⟩)
  | some a =>
    obtain ⟨ab, ao, asp⟩ := a
    go_wp2_with (at_builtin; refine Lib.wpList_append_run _ rfl _ _ _ _ rfl _ _ rfl rfl _ _ (hrz _) ?_)
    all_goals (go_ret; exact ⟨rfl, rfl⟩)

theorem grow2_any (v : Value) (xs : List Value) (n : Nat) (w : World) (h : Row w (El 2) v xs) (hb : xs.length + n ≤ 1099511627776) :
    Calls Ybaf.prog 26 #[v, .int .i64 n] w fun e w' => ∃ v', e = .returned v' ∧ Grew w w' (El 2) v v' xs := by
  rcases row_cells h with ⟨rfl, rfl⟩ | ⟨g, cap, cur, rfl, hh, hl, hm, hs, ht⟩
  · by_cases hn : 0 + n ≤ 0
    · refine (grow2_room none 0 0 n w (by omega) (by omega) (by omega) hn).mono ?_
      rintro e w' ⟨rfl, rfl⟩
      exact ⟨_, rfl, Grew.same h⟩
    · obtain ⟨z, hz, hrz⟩ := zeros_run 2 (by omega) w none 0 0 n [] (by omega) (by simpa using hb) rfl (fun _ => rfl) (fun a ha => by cases ha)
      refine (grow2_more none 0 0 n (0 + n) rfl (grownCap w (0 + n) 0 (El 2)) w _ (by omega) (by omega) (by simpa using hb) (grownCap_ge w _ _ _) (grownCap_le_maxLen w _ _ _ (by unfold maxLen; simp at hb; omega)) (fun _ => rfl) hrz).mono ?_
      rintro e w' ⟨rfl, rfl⟩
      exact ⟨_, rfl, Grew.new rfl (by omega) rfl rfl hz (by omega) (grownCap_ge w _ _ _) (grownCap_le_maxLen w _ _ _ (by unfold maxLen; simp at hb; omega))⟩
  · by_cases hn : xs.length + n ≤ cap
    · refine (grow2_room _ _ cap n w hl (by unfold maxLen at hm; omega) (by omega) hn).mono ?_
      rintro e w' ⟨rfl, rfl⟩
      exact ⟨_, rfl, Grew.same h⟩
    · obtain ⟨z, hz, hrz⟩ := zeros_run 2 (by omega) w (some ⟨g, 0, none⟩) xs.length cap n cur.toList (by omega) hb (by simpa using hs) (fun h => by cases h) (fun a ha j v hv => by
        obtain rfl := Option.some.inj ha
        exact World.news_of_block hh j v hv)
      refine (grow2_more _ xs.length cap n _ rfl (grownCap w (xs.length + n) cap (El 2)) w _ hl (by omega) hb (grownCap_ge w _ _ _) (grownCap_le_maxLen w _ _ _ (by unfold maxLen; omega)) (fun h => by cases h) hrz).mono ?_
      rintro e w' ⟨rfl, rfl⟩
      exact ⟨_, rfl, Grew.new rfl hl (by simpa using hs) ht hz (by omega) (grownCap_ge w _ _ _) (grownCap_le_maxLen w _ _ _ (by unfold maxLen; omega))⟩

set_option maxHeartbeats 1000000 in
theorem grow3_room (base : Option Addr) (l c n : Nat) (w : World) (hlc : l ≤ c) (hc63 : c ≤ 9223372036854775807) (hn63 : n ≤ 9223372036854775807) (hroom : l + n ≤ c) :
    Calls Ybaf.prog 27 #[.slice base l c, .int .i64 n] w fun e w' => e = .returned (.slice base l c) ∧ w' = w := by
  have h1 : ¬ ((n : Int) < 0) := by omega
  have h4 : ¬ ((n : Int) - ((c : Int) - (l : Int)) > 0) := by omega
  go_enter Ybaf.func27, Ybaf.ntmps27
  go_wp2_with fail
  go_ret
  exact ⟨rfl, rfl⟩

set_option maxHeartbeats 1000000 in
theorem grow3_more (base : Option Addr) (l c n m : Nat) (hm : m = l + n) (G : Nat) (w : World) (o : Obj) (hlc : l ≤ c) (hroom : c < m) (hbig : m ≤ 1099511627776) (hG : m ≤ G) (hGm : G ≤ maxLen) (hnil : base = none → c = 0)
    (hrz : ∀ ty, (Builtin.append_ #[23, 3] ty #[.slice base c c, .int .i64 ((n : Int) - ((c : Int) - (l : Int)))]).run Ybaf.prog w =
      .ok (.slice (some ⟨w.heap.size, 0, none⟩) m G) (w.drew.alloc o)) :
    Calls Ybaf.prog 27 #[.slice base l c, .int .i64 n] w fun e w' => e = .returned (.slice (some ⟨w.heap.size, 0, none⟩) l G) ∧ w' = w.drew.alloc o := by
  have h1 : ¬ ((n : Int) < 0) := by omega
  have h4 : (n : Int) - ((c : Int) - (l : Int)) > 0 := by omega
  have hlG : l ≤ G := by omega
  have hG63 : G ≤ 9223372036854775807 := by unfold maxLen at hGm; omega
  have hn63 : n ≤ 9223372036854775807 := by omega
  have hc63 : c ≤ 9223372036854775807 := by omega
  clear hm
  go_enter Ybaf.func27, Ybaf.ntmps27
  cases base with
  | none =>
    have h0 := hnil rfl
    subst h0
    obtain rfl : l = 0 := by omega
    go_wp2_with (at_builtin; refine Lib.wpList_append_run _ rfl _ _ _ _ rfl _ _ rfl rfl _ _ (hrz _) ?_)
    all_goals (go_ret; exact ⟨rfl, rfl⟩)
  | some a =>
    obtain ⟨ab, ao, asp⟩ := a
    go_wp2_with (at_builtin; refine Lib.wpList_append_run _ rfl _ _ _ _ rfl _ _ rfl rfl _ _ (hrz _) ?_)
    all_goals (go_ret; exact ⟨rfl, rfl⟩)

theorem grow3_any (v : Value) (xs : List Value) (n : Nat) (w : World) (h : Row w (El 3) v xs) (hb : xs.length + n ≤ 1099511627776) :
    Calls Ybaf.prog 27 #[v, .int .i64 n] w fun e w' => ∃ v', e = .returned v' ∧ Grew w w' (El 3) v v' xs := by
  rcases row_cells h with ⟨rfl, rfl⟩ | ⟨g, cap, cur, rfl, hh, hl, hm, hs, ht⟩
  · by_cases hn : 0 + n ≤ 0
    · refine (grow3_room none 0 0 n w (by omega) (by omega) (by omega) hn).mono ?_
      rintro e w' ⟨rfl, rfl⟩
      exact ⟨_, rfl, Grew.same h⟩
    · obtain ⟨z, hz, hrz⟩ := zeros_run 3 (by omega) w none 0 0 n [] (by omega) (by simpa using hb) rfl (fun _ => rfl) (fun a ha => by cases ha)
      refine (grow3_more none 0 0 n (0 + n) rfl (grownCap w (0 + n) 0 (El 3)) w _ (by omega) (by omega) (by simpa using hb) (grownCap_ge w _ _ _) (grownCap_le_maxLen w _ _ _ (by unfold maxLen; simp at hb; omega)) (fun _ => rfl) hrz).mono ?_
      rintro e w' ⟨rfl, rfl⟩
      exact ⟨_, rfl, Grew.new rfl (by omega) rfl rfl hz (by omega) (grownCap_ge w _ _ _) (grownCap_le_maxLen w _ _ _ (by unfold maxLen; simp at hb; omega))⟩
  · by_cases hn : xs.length + n ≤ cap
    · refine (grow3_room _ _ cap n w hl (by unfold maxLen at hm; omega) (by omega) hn).mono ?_
      rintro e w' ⟨rfl, rfl⟩
      exact ⟨_, rfl, Grew.same h⟩
    · obtain ⟨z, hz, hrz⟩ := zeros_run 3 (by omega) w (some ⟨g, 0, none⟩) xs.length cap n cur.toList (by omega) hb (by simpa using hs) (fun h => by cases h) (fun a ha j v hv => by
        obtain rfl := Option.some.inj ha
        exact World.news_of_block hh j v hv)
      refine (grow3_more _ xs.length cap n _ rfl (grownCap w (xs.length + n) cap (El 3)) w _ hl (by omega) hb (grownCap_ge w _ _ _) (grownCap_le_maxLen w _ _ _ (by unfold maxLen; omega)) (fun h => by cases h) hrz).mono ?_
      rintro e w' ⟨rfl, rfl⟩
      exact ⟨_, rfl, Grew.new rfl hl (by simpa using hs) ht hz (by omega) (grownCap_ge w _ _ _) (grownCap_le_maxLen w _ _ _ (by unfold maxLen; omega))⟩

set_option maxHeartbeats 1000000 in
theorem grow4_room (base : Option Addr) (l c n : Nat) (w : World) (hlc : l ≤ c) (hc63 : c ≤ 9223372036854775807) (hn63 : n ≤ 9223372036854775807) (hroom : l + n ≤ c) :
    Calls Ybaf.prog 28 #[.slice base l c, .int .i64 n] w fun e w' => e = .returned (.slice base l c) ∧ w' = w := by
  have h1 : ¬ ((n : Int) < 0) := by omega
  have h4 : ¬ ((n : Int) - ((c : Int) - (l : Int)) > 0) := by omega
  go_enter Ybaf.func28, Ybaf.ntmps28
  go_wp2_with fail
  go_ret
  exact ⟨rfl, rfl⟩

set_option maxHeartbeats 1000000 in
theorem grow4_more (base : Option Addr) (l c n m : Nat) (hm : m = l + n) (G : Nat) (w : World) (o : Obj) (hlc : l ≤ c) (hroom : c < m) (hbig : m ≤ 1099511627776) (hG : m ≤ G) (hGm : G ≤ maxLen) (hnil : base = none → c = 0)
    (hrz : ∀ ty, (Builtin.append_ #[39, 3] ty #[.slice base c c, .int .i64 ((n : Int) - ((c : Int) - (l : Int)))]).run Ybaf.prog w =
      .ok (.slice (some ⟨w.heap.size, 0, none⟩) m G) (w.drew.alloc o)) :
    Calls Ybaf.prog 28 #[.slice base l c, .int .i64 n] w fun e w' => e = .returned (.slice (some ⟨w.heap.size, 0, none⟩) l G) ∧ w' = w.drew.alloc o := by
  have h1 : ¬ ((n : Int) < 0) := by omega
  have h4 : (n : Int) - ((c : Int) - (l : Int)) > 0 := by omega
  have hlG : l ≤ G := by omega
  have hG63 : G ≤ 9223372036854775807 := by unfold maxLen at hGm; omega
  have hn63 : n ≤ 9223372036854775807 := by omega
  have hc63 : c ≤ 9223372036854775807 := by omega
  clear hm
  go_enter Ybaf.func28, Ybaf.ntmps28
  cases base with
  | none =>
    have h0 := hnil rfl
    subst h0
    obtain rfl : l = 0 := by omega
    go_wp2_with (at_builtin; refine Lib.wpList_append_run _ rfl _ _ _ _ rfl _ _ rfl rfl _ _ (hrz _) ?_)
    all_goals (go_ret; exact ⟨rfl, rfl⟩)
  | some a =>
    obtain ⟨ab, ao, asp⟩ := a
    go_wp2_with (at_builtin; refine Lib.wpList_append_run _ rfl _ _ _ _ rfl _ _ rfl rfl _ _ (hrz _) ?_)
    all_goals (go_ret; exact ⟨rfl, rfl⟩)

theorem grow4_any (v : Value) (xs : List Value) (n : Nat) (w : World) (h : Row w (El 4) v xs) (hb : xs.length + n ≤ 1099511627776) :
    Calls Ybaf.prog 28 #[v, .int .i64 n] w fun e w' => ∃ v', e = .returned v' ∧ Grew w w' (El 4) v v' xs := by
  rcases row_cells h with ⟨rfl, rfl⟩ | ⟨g, cap, cur, rfl, hh, hl, hm, hs, ht⟩
  · by_cases hn : 0 + n ≤ 0
    · refine (grow4_room none 0 0 n w (by omega) (by omega) (by omega) hn).mono ?_
      rintro e w' ⟨rfl, rfl⟩
      exact ⟨_, rfl, Grew.same h⟩
    · obtain ⟨z, hz, hrz⟩ := zeros_run 4 (by omega) w none 0 0 n [] (by omega) (by simpa using hb) rfl (fun _ => rfl) (fun a ha => by cases ha)
      refine (grow4_more none 0 0 n (0 + n) rfl (grownCap w (0 + n) 0 (El 4)) w _ (by omega) (by omega) (by simpa using hb) (grownCap_ge w _ _ _) (grownCap_le_maxLen w _ _ _ (by unfold maxLen; simp at hb; omega)) (fun _ => rfl) hrz).mono ?_
      rintro e w' ⟨rfl, rfl⟩
      exact ⟨_, rfl, Grew.new rfl (by omega) rfl rfl hz (by omega) (grownCap_ge w _ _ _) (grownCap_le_maxLen w _ _ _ (by unfold maxLen; simp at hb; omega))⟩
  · by_cases hn : xs.length + n ≤ cap
    · refine (grow4_room _ _ cap n w hl (by unfold maxLen at hm; omega) (by omega) hn).mono ?_
      rintro e w' ⟨rfl, rfl⟩
      exact ⟨_, rfl, Grew.same h⟩
    · obtain ⟨z, hz, hrz⟩ := zeros_run 4 (by omega) w (some ⟨g, 0, none⟩) xs.length cap n cur.toList (by omega) hb (by simpa using hs) (fun h => by cases h) (fun a ha j v hv => by
        obtain rfl := Option.some.inj ha
        exact World.news_of_block hh j v hv)
      refine (grow4_more _ xs.length cap n _ rfl (grownCap w (xs.length + n) cap (El 4)) w _ hl (by omega) hb (grownCap_ge w _ _ _) (grownCap_le_maxLen w _ _ _ (by unfold maxLen; omega)) (fun h => by cases h) hrz).mono ?_
      rintro e w' ⟨rfl, rfl⟩
      exact ⟨_, rfl, Grew.new rfl hl (by simpa using hs) ht hz (by omega) (grownCap_ge w _ _ _) (grownCap_le_maxLen w _ _ _ (by unfold maxLen; omega))⟩

set_option maxHeartbeats 1000000 in
theorem grow5_room (base : Option Addr) (l c n : Nat) (w : World) (hlc : l ≤ c) (hc63 : c ≤ 9223372036854775807) (hn63 : n ≤ 9223372036854775807) (hroom : l + n ≤ c) :
    Calls Ybaf.prog 29 #[.slice base l c, .int .i64 n] w fun e w' => e = .returned (.slice base l c) ∧ w' = w := by
  have h1 : ¬ ((n : Int) < 0) := by omega
  have h4 : ¬ ((n : Int) - ((c : Int) - (l : Int)) > 0) := by omega
  go_enter Ybaf.func29, Ybaf.ntmps29
  go_wp2_with fail
  go_ret
  exact ⟨rfl, rfl⟩

set_option maxHeartbeats 1000000 in
theorem grow5_more (base : Option Addr) (l c n m : Nat) (hm : m = l + n) (G : Nat) (w : World) (o : Obj) (hlc : l ≤ c) (hroom : c < m) (hbig : m ≤ 1099511627776) (hG : m ≤ G) (hGm : G ≤ maxLen) (hnil : base = none → c = 0)
    (hrz : ∀ ty, (Builtin.append_ #[40, 3] ty #[.slice base c c, .int .i64 ((n : Int) - ((c : Int) - (l : Int)))]).run Ybaf.prog w =
      .ok (.slice (some ⟨w.heap.size, 0, none⟩) m G) (w.drew.alloc o)) :
    Calls Ybaf.prog 29 #[.slice base l c, .int .i64 n] w fun e w' => e = .returned (.slice (some ⟨w.heap.size, 0, none⟩) l G) ∧ w' = w.drew.alloc o := by
  have h1 : ¬ ((n : Int) < 0) := by omega
  have h4 : (n : Int) - ((c : Int) - (l : Int)) > 0 := by omega
  have hlG : l ≤ G := by omega
  have hG63 : G ≤ 9223372036854775807 := by unfold maxLen at hGm; omega
  have hn63 : n ≤ 9223372036854775807 := by omega
  have hc63 : c ≤ 9223372036854775807 := by omega
  clear hm
  go_enter Ybaf.func29, Ybaf.ntmps29
  cases base with
  | none =>
    have h0 := hnil rfl
    subst h0
    obtain rfl : l = 0 := by omega
    go_wp2_with (at_builtin; refine Lib.wpList_append_run _ rfl _ _ _ _ rfl _ _ rfl rfl _ _ (hrz _) ?_)
    all_goals (go_ret; exact ⟨rfl, rfl⟩)
  | some a =>
    obtain ⟨ab, ao, asp⟩ := a
    go_wp2_with (at_builtin; refine Lib.wpList_append_run _ rfl _ _ _ _ rfl _ _ rfl rfl _ _ (hrz _) ?_)
    all_goals (go_ret; exact ⟨rfl, rfl⟩)

theorem grow5_any (v : Value) (xs : List Value) (n : Nat) (w : World) (h : Row w (El 5) v xs) (hb : xs.length + n ≤ 1099511627776) :
    Calls Ybaf.prog 29 #[v, .int .i64 n] w fun e w' => ∃ v', e = .returned v' ∧ Grew w w' (El 5) v v' xs := by
  rcases row_cells h with ⟨rfl, rfl⟩ | ⟨g, cap, cur, rfl, hh, hl, hm, hs, ht⟩
  · by_cases hn : 0 + n ≤ 0
    · refine (grow5_room none 0 0 n w (by omega) (by omega) (by omega) hn).mono ?_
      rintro e w' ⟨rfl, rfl⟩
      exact ⟨_, rfl, Grew.same h⟩
    · obtain ⟨z, hz, hrz⟩ := zeros_run 5 (by omega) w none 0 0 n [] (by omega) (by simpa using hb) rfl (fun _ => rfl) (fun a ha => by cases ha)
      refine (grow5_more none 0 0 n (0 + n) rfl (grownCap w (0 + n) 0 (El 5)) w _ (by omega) (by omega) (by simpa using hb) (grownCap_ge w _ _ _) (grownCap_le_maxLen w _ _ _ (by unfold maxLen; simp at hb; omega)) (fun _ => rfl) hrz).mono ?_
      rintro e w' ⟨rfl, rfl⟩
      exact ⟨_, rfl, Grew.new rfl (by omega) rfl rfl hz (by omega) (grownCap_ge w _ _ _) (grownCap_le_maxLen w _ _ _ (by unfold maxLen; simp at hb; omega))⟩
  · by_cases hn : xs.length + n ≤ cap
    · refine (grow5_room _ _ cap n w hl (by unfold maxLen at hm; omega) (by omega) hn).mono ?_
      rintro e w' ⟨rfl, rfl⟩
      exact ⟨_, rfl, Grew.same h⟩
    · obtain ⟨z, hz, hrz⟩ := zeros_run 5 (by omega) w (some ⟨g, 0, none⟩) xs.length cap n cur.toList (by omega) hb (by simpa using hs) (fun h => by cases h) (fun a ha j v hv => by
        obtain rfl := Option.some.inj ha
        exact World.news_of_block hh j v hv)
      refine (grow5_more _ xs.length cap n _ rfl (grownCap w (xs.length + n) cap (El 5)) w _ hl (by omega) hb (grownCap_ge w _ _ _) (grownCap_le_maxLen w _ _ _ (by unfold maxLen; omega)) (fun h => by cases h) hrz).mono ?_
      rintro e w' ⟨rfl, rfl⟩
      exact ⟨_, rfl, Grew.new rfl hl (by simpa using hs) ht hz (by omega) (grownCap_ge w _ _ _) (grownCap_le_maxLen w _ _ _ (by unfold maxLen; omega))⟩

set_option maxHeartbeats 1000000 in
theorem grow6_room (base : Option Addr) (l c n : Nat) (w : World) (hlc : l ≤ c) (hc63 : c ≤ 9223372036854775807) (hn63 : n ≤ 9223372036854775807) (hroom : l + n ≤ c) :
    Calls Ybaf.prog 31 #[.slice base l c, .int .i64 n] w fun e w' => e = .returned (.slice base l c) ∧ w' = w := by
  have h1 : ¬ ((n : Int) < 0) := by omega
  have h4 : ¬ ((n : Int) - ((c : Int) - (l : Int)) > 0) := by omega
  go_enter Ybaf.func31, Ybaf.ntmps31
  go_wp2_with fail
  go_ret
  exact ⟨rfl, rfl⟩

set_option maxHeartbeats 1000000 in
theorem grow6_more (base : Option Addr) (l c n m : Nat) (hm : m = l + n) (G : Nat) (w : World) (o : Obj) (hlc : l ≤ c) (hroom : c < m) (hbig : m ≤ 1099511627776) (hG : m ≤ G) (hGm : G ≤ maxLen) (hnil : base = none → c = 0)
    (hrz : ∀ ty, (Builtin.append_ #[41, 3] ty #[.slice base c c, .int .i64 ((n : Int) - ((c : Int) - (l : Int)))]).run Ybaf.prog w =
      .ok (.slice (some ⟨w.heap.size, 0, none⟩) m G) (w.drew.alloc o)) :
    Calls Ybaf.prog 31 #[.slice base l c, .int .i64 n] w fun e w' => e = .returned (.slice (some ⟨w.heap.size, 0, none⟩) l G) ∧ w' = w.drew.alloc o := by
  have h1 : ¬ ((n : Int) < 0) := by omega
  have h4 : (n : Int) - ((c : Int) - (l : Int)) > 0 := by omega
  have hlG : l ≤ G := by omega
  have hG63 : G ≤ 9223372036854775807 := by unfold maxLen at hGm; omega
  have hn63 : n ≤ 9223372036854775807 := by omega
  have hc63 : c ≤ 9223372036854775807 := by omega
  clear hm
  go_enter Ybaf.func31, Ybaf.ntmps31
  cases base with
  | none =>
    have h0 := hnil rfl
    subst h0
    obtain rfl : l = 0 := by omega
    go_wp2_with (at_builtin; refine Lib.wpList_append_run _ rfl _ _ _ _ rfl _ _ rfl rfl _ _ (hrz _) ?_)
    all_goals (go_ret; exact ⟨rfl, rfl⟩)
  | some a =>
    obtain ⟨ab, ao, asp⟩ := a
    go_wp2_with (at_builtin; refine Lib.wpList_append_run _ rfl _ _ _ _ rfl _ _ rfl rfl _ _ (hrz _) ?_)
    all_goals (go_ret; exact ⟨rfl, rfl⟩)

theorem grow6_any (v : Value) (xs : List Value) (n : Nat) (w : World) (h : Row w (El 6) v xs) (hb : xs.length + n ≤ 1099511627776) :
    Calls Ybaf.prog 31 #[v, .int .i64 n] w fun e w' => ∃ v', e = .returned v' ∧ Grew w w' (El 6) v v' xs := by
  rcases row_cells h with ⟨rfl, rfl⟩ | ⟨g, cap, cur, rfl, hh, hl, hm, hs, ht⟩
  · by_cases hn : 0 + n ≤ 0
    · refine (grow6_room none 0 0 n w (by omega) (by omega) (by omega) hn).mono ?_
      rintro e w' ⟨rfl, rfl⟩
      exact ⟨_, rfl, Grew.same h⟩
    · obtain ⟨z, hz, hrz⟩ := zeros_run 6 (by omega) w none 0 0 n [] (by omega) (by simpa using hb) rfl (fun _ => rfl) (fun a ha => by cases ha)
      refine (grow6_more none 0 0 n (0 + n) rfl (grownCap w (0 + n) 0 (El 6)) w _ (by omega) (by omega) (by simpa using hb) (grownCap_ge w _ _ _) (grownCap_le_maxLen w _ _ _ (by unfold maxLen; simp at hb; omega)) (fun _ => rfl) hrz).mono ?_
      rintro e w' ⟨rfl, rfl⟩
      exact ⟨_, rfl, Grew.new rfl (by omega) rfl rfl hz (by omega) (grownCap_ge w _ _ _) (grownCap_le_maxLen w _ _ _ (by unfold maxLen; simp at hb; omega))⟩
  · by_cases hn : xs.length + n ≤ cap
    · refine (grow6_room _ _ cap n w hl (by unfold maxLen at hm; omega) (by omega) hn).mono ?_
      rintro e w' ⟨rfl, rfl⟩
      exact ⟨_, rfl, Grew.same h⟩
    · obtain ⟨z, hz, hrz⟩ := zeros_run 6 (by omega) w (some ⟨g, 0, none⟩) xs.length cap n cur.toList (by omega) hb (by simpa using hs) (fun h => by cases h) (fun a ha j v hv => by
        obtain rfl := Option.some.inj ha
        exact World.news_of_block hh j v hv)
      refine (grow6_more _ xs.length cap n _ rfl (grownCap w (xs.length + n) cap (El 6)) w _ hl (by omega) hb (grownCap_ge w _ _ _) (grownCap_le_maxLen w _ _ _ (by unfold maxLen; omega)) (fun h => by cases h) hrz).mono ?_
      rintro e w' ⟨rfl, rfl⟩
      exact ⟨_, rfl, Grew.new rfl hl (by simpa using hs) ht hz (by omega) (grownCap_ge w _ _ _) (grownCap_le_maxLen w _ _ _ (by unfold maxLen; omega))⟩

end Go.Proofs.YbulkcbpgFmt
