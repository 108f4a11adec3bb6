/-
  Seat b3938a, LawS3938CBuilt: the appends with room, the plain law on the digits, the law's walk.
-/
import Derived.Test.YbulkccnmRows
import Derived.Test.YbulkccnmCode
import Derived.WalkKit
import Derived.WalkSpells
import Derived.Deep.LoopGhost
import Derived.Deep.DeepAppendRoom
import Derived.Laws.AppendOwnNone
namespace Go.Proofs.Ybulkccnm.Walks
open Go.RowKit

/-! ### append(own, src...), the source nil or not, with room -/

/-- A slice of bytes as a source: nil, or cells that hold the numbers. -/
def SrcIs (w : World) (v : Value) (m : Nat) (zs : List Int) : Prop :=
  (v = .slice none 0 0 ∧ m = 0 ∧ zs = []) ∨ ∃ ad c, v = .slice (some ad) m c ∧ zs.length = m ∧ ∀ j, j < m → w.cell? (ad.add j) = some (.int .u8 (zs.getD j 0))

theorem wpList_append_from {P : Program} (w : World) {ops : Array Oper} {rest : List Oper} {o : Oper} {a : Act} {Q : Exit → Act → World → Prop} (hgd : o.guard = none) (s x : Operand) (t : TypeId)
    (ho : o.op = .call { callee := .builtin .append, args := #[s, x], argTypes := #[t, t] })
    (base : Nat) (e : TypeId) (i : TypeInfo) (ht : P.underlying t = some (.slice e)) (hi : P.info? e = some i) (hsize : i.size = 1)
    (g n cap : Nat) (xs : List Int) (hs : a.eval s = .slice (some ⟨g, 0, none⟩) n cap) (hown : w.ownsRow base e 1 (.slice (some ⟨g, 0, none⟩) n cap) n (xs.map (Value.int .u8)))
    (v : Value) (m : Nat) (zs : List Int) (hx : a.eval x = v) (hsrc : SrcIs w v m zs)
    (n' : Nat) (hn' : n + m = n') (L : List Int) (hL : xs ++ zs = L) (hroom : n' ≤ cap)
    (h : ∀ w', w'.ownsRow base e 1 (.slice (some ⟨g, 0, none⟩) n' cap) n' (L.map (Value.int .u8)) → w.grownBy w' (some g) → wpList P ops Q rest (a.put o.dst (.slice (some ⟨g, 0, none⟩) n' cap)) w') : wpList P ops Q (o :: rest) a w := by
  subst hn' hL
  rcases hsrc with ⟨rfl, rfl, rfl⟩ | ⟨ad, c, rfl, hl, hc⟩
  · refine wpList_append_own_none hgd s x t ho base e i 1 ht hi _ n _ hs hown hx ?_
    have := h w (by simpa using hown) ⟨rfl, rfl, rfl, Nat.le_refl _, fun _ _ _ => rfl⟩
    simpa using this
  · refine wpList_append_own_spare w hgd s x t ho base e i 1 ht hi hsize g n cap _ hs hown ad m c (zs.map (Value.int .u8)) hx (by simp [hl]) ?_ ?_ hroom ?_
    · intro j u hu
      rw [List.getElem?_map, Option.map_eq_some_iff] at hu
      obtain ⟨y, hy, rfl⟩ := hu
      have hj : j < m := by have := (List.getElem?_eq_some_iff.1 hy).1; omega
      rw [hc j hj, List.getD_eq_getElem?_getD, hy]; rfl
    · intro u hu
      obtain ⟨y, _, rfl⟩ := List.mem_map.1 hu
      rfl
    · intro w' h1 h2
      exact h w' (by rw [List.map_append]; exact h1) h2

theorem SrcIs.later {w w' : World} {v : Value} {m : Nat} {zs : List Int} (h : SrcIs w v m zs) (hb : Below w.heap.size w w') : SrcIs w' v m zs := by
  rcases h with h | ⟨ad, c, rfl, hl, hc⟩
  · exact .inl h
  · refine .inr ⟨ad, c, rfl, hl, fun j hj => ?_⟩
    exact cell_later hb (hc j hj)

/-! ### The plain law -/

def tab : List Int := [48, 49, 50, 51, 52, 53, 54, 55, 56, 57, 97, 98, 99, 100, 101, 102, 65, 66, 67, 68, 69, 70, 103, 71, 47, 58, 64, 96, 120, 90]
def tbl (p : Int) : Int := tab.getD p.toNat 0

def gd (q : Nat → Int) : Nat → Bool
  | 0 => true
  | k + 1 => gd q k && decide (q k < 22)

def wn (q : Nat → Int) : Nat → Int
  | 0 => 0
  | k + 1 => if q k < 16 then wn q k * 16 + q k else if q k < 22 then wn q k * 16 + (q k - 6) else wn q k

theorem hv_tbl (p : Int) (h0 : 0 ≤ p) (h1 : p < 30) : hv (tbl p) = if p < 16 then some p else if p < 22 then some (p - 6) else none := by
  obtain ⟨n, rfl⟩ := Int.eq_ofNat_of_zero_le h0
  have hn : n < 30 := by omega
  have key : ∀ n : Nat, n < 30 → hv (tbl (n : Int)) = if (n : Int) < 16 then some (n : Int) else if (n : Int) < 22 then some ((n : Int) - 6) else none := by decide
  exact key n hn

theorem tbl_bd (p : Int) (h0 : 0 ≤ p) (h1 : p < 30) : 0 ≤ tbl p ∧ tbl p ≤ 255 := by
  obtain ⟨n, rfl⟩ := Int.eq_ofNat_of_zero_le h0
  have hn : n < 30 := by omega
  have key : ∀ n : Nat, n < 30 → 0 ≤ tbl (n : Int) ∧ tbl (n : Int) ≤ 255 := by decide
  exact key n hn

theorem wn_bd (q : Nat → Int) (hq : ∀ j, 0 ≤ q j ∧ q j < 30) : ∀ k, 0 ≤ wn q k ∧ wn q k < 16 ^ k := by
  intro k
  induction k with
  | zero => exact ⟨Int.le_refl _, show (0 : Int) < 16 ^ 0 by decide⟩
  | succ k ih =>
    have := hq k
    rw [Int.pow_succ]
    show 0 ≤ (if q k < 16 then wn q k * 16 + q k else if q k < 22 then wn q k * 16 + (q k - 6) else wn q k) ∧ (if q k < 16 then wn q k * 16 + q k else if q k < 22 then wn q k * 16 + (q k - 6) else wn q k) < 16 ^ k * 16
    split
    · omega
    · split
      · omega
      · omega

theorem acc_is (D q : Nat → Int) (i : Nat) (hq : ∀ j, 0 ≤ q j ∧ q j < 30) : ∀ k, (∀ j, j < k → D (i + j) = tbl (q j)) → acc D i k = if gd q k then some (wn q k) else none := by
  intro k
  induction k with
  | zero => intro _; rfl
  | succ k ih =>
    intro h
    have hk := h k (by omega)
    show ((acc D i k).bind fun u => (hv (D (i + k))).map fun d => u * 16 + d) = _
    rw [ih (fun j hj => h j (by omega)), hk, hv_tbl _ (hq k).1 (hq k).2]
    show _ = if (gd q k && decide (q k < 22)) = true then some (if q k < 16 then wn q k * 16 + q k else if q k < 22 then wn q k * 16 + (q k - 6) else wn q k) else none
    cases gd q k
    · simp
    · by_cases h16 : q k < 16
      · have h22 : q k < 22 := by omega
        simp [h16, h22]
      · by_cases h22 : q k < 22
        · simp [h16, h22]
        · simp [h16, h22]

theorem gd_lt {q : Nat → Int} {k : Nat} {b : Bool} {p : Int} (hb : gd q k = b) (hp : q k = p) (h : p < 22) : gd q (k + 1) = b := by
  show (gd q k && decide (q k < 22)) = b
  rw [hp, hb]; simp [h]
theorem gd_ge {q : Nat → Int} {k : Nat} {p : Int} (hp : q k = p) (h : ¬ p < 22) : gd q (k + 1) = false := by
  show (gd q k && decide (q k < 22)) = false
  rw [hp]; simp [h]
theorem wn_a {q : Nat → Int} {k : Nat} {v p : Int} (hv : wn q k = v) (hp : q k = p) (h : p < 16) : wn q (k + 1) = v * 16 + p := by
  show (if q k < 16 then wn q k * 16 + q k else if q k < 22 then wn q k * 16 + (q k - 6) else wn q k) = _
  rw [hp, hv, if_pos h]
theorem wn_b {q : Nat → Int} {k : Nat} {v p : Int} (hv : wn q k = v) (hp : q k = p) (h : ¬ p < 16) (h2 : p < 22) : wn q (k + 1) = v * 16 + (p - 6) := by
  show (if q k < 16 then wn q k * 16 + q k else if q k < 22 then wn q k * 16 + (q k - 6) else wn q k) = _
  rw [hp, hv, if_neg h, if_pos h2]
theorem wn_c {q : Nat → Int} {k : Nat} {v p : Int} (hv : wn q k = v) (hp : q k = p) (h2 : ¬ p < 22) : wn q (k + 1) = v := by
  show (if q k < 16 then wn q k * 16 + q k else if q k < 22 then wn q k * 16 + (q k - 6) else wn q k) = _
  rw [hp, hv, if_neg (by omega), if_neg h2]

/-- What 'full' holds when k of the four characters are there. -/
def bytesTo (pre : List Int) (q : Nat → Int) : Nat → List Int
  | 0 => pre ++ [92, 117]
  | k + 1 => bytesTo pre q k ++ [tbl (q k)]

theorem bytesTo_len (pre : List Int) (q : Nat → Int) (k : Nat) : (bytesTo pre q k).length = pre.length + 2 + k := by
  induction k with
  | zero => simp [bytesTo]
  | succ k ih => simp [bytesTo, ih]; omega

/-- The bytes of the whole text at the places that codeUnit reads. -/
theorem data_is (pre suf : List Int) (q : Nat → Int) (P : Nat) (hP : pre.length = P) :
    (bytesTo pre q 4 ++ suf).getD P 0 = 92 ∧ (bytesTo pre q 4 ++ suf).getD (P + 1) 0 = 117 ∧ ∀ j, j < 4 → (bytesTo pre q 4 ++ suf).getD (P + 2 + j) 0 = tbl (q j) := by
  subst hP
  have e : bytesTo pre q 4 ++ suf = pre ++ ([92, 117, tbl (q 0), tbl (q 1), tbl (q 2), tbl (q 3)] ++ suf) := by simp [bytesTo]
  rw [e]
  refine ⟨?_, ?_, fun j hj => ?_⟩
  · rw [List.getD_eq_getElem?_getD, List.getElem?_append_right (by omega)]; simp
  · rw [List.getD_eq_getElem?_getD, List.getElem?_append_right (by omega)]; simp
  · rw [List.getD_eq_getElem?_getD, List.getElem?_append_right (by omega), show pre.length + 2 + j - pre.length = 2 + j by omega]
    have hj' : j = 0 ∨ j = 1 ∨ j = 2 ∨ j = 3 := by omega
    rcases hj' with rfl | rfl | rfl | rfl <;> rfl

theorem data_bd (pre suf : List Int) (q : Nat → Int) (hq : ∀ j, 0 ≤ q j ∧ q j < 30) (hp : ∀ z ∈ pre, 0 ≤ z ∧ z ≤ 255) (hs : ∀ z ∈ suf, 0 ≤ z ∧ z ≤ 255) (j : Nat) :
    0 ≤ (bytesTo pre q 4 ++ suf).getD j 0 ∧ (bytesTo pre q 4 ++ suf).getD j 0 ≤ 255 := by
  rw [List.getD_eq_getElem?_getD]
  cases h : (bytesTo pre q 4 ++ suf)[j]? with
  | none => simp
  | some z =>
    have hm := List.mem_of_getElem? h
    have e : bytesTo pre q 4 ++ suf = pre ++ ([92, 117, tbl (q 0), tbl (q 1), tbl (q 2), tbl (q 3)] ++ suf) := by simp [bytesTo]
    rw [e] at hm
    simp only [List.mem_append, List.mem_cons, List.not_mem_nil, or_false] at hm
    have b := fun j => tbl_bd (q j) (hq j).1 (hq j).2
    show 0 ≤ z ∧ z ≤ 255
    rcases hm with hm | (rfl | rfl | rfl | rfl | rfl | rfl) | hm
    · exact hp z hm
    · omega
    · omega
    · exact b 0
    · exact b 1
    · exact b 2
    · exact b 3
    · exact hs z hm

theorem info5 : (Yba.prog.info? 5).map (fun i => (i.zero, i.size, i.bytes)) = some (some (.int .u8 0), 1, 1) := by kernel_rfl

theorem run_tbl (p : Int) (h0 : 0 ≤ p) (h1 : p < 30) (w : World) :
    (Instr.index 9 (.string { data := #[48, 49, 50, 51, 52, 53, 54, 55, 56, 57, 97, 98, 99, 100, 101, 102, 65, 66, 67, 68, 69, 70, 103, 71, 47, 58, 64, 96, 120, 90] }) (.int .i64 p)).run Yba.prog w = .ok (.int .u8 (tbl p)) w := by
  obtain ⟨n, rfl⟩ := Int.eq_ofNat_of_zero_le h0
  have hn : n < 30 := by omega
  have hc : n = 0 ∨ n = 1 ∨ n = 2 ∨ n = 3 ∨ n = 4 ∨ n = 5 ∨ n = 6 ∨ n = 7 ∨ n = 8 ∨ n = 9 ∨ n = 10 ∨ n = 11 ∨ n = 12 ∨ n = 13 ∨ n = 14 ∨ n = 15 ∨ n = 16 ∨ n = 17 ∨ n = 18 ∨ n = 19 ∨ n = 20 ∨ n = 21 ∨ n = 22 ∨ n = 23 ∨ n = 24 ∨ n = 25 ∨ n = 26 ∨ n = 27 ∨ n = 28 ∨ n = 29 := by omega
  rcases hc with rfl | rfl | rfl | rfl | rfl | rfl | rfl | rfl | rfl | rfl | rfl | rfl | rfl | rfl | rfl | rfl | rfl | rfl | rfl | rfl | rfl | rfl | rfl | rfl | rfl | rfl | rfl | rfl | rfl | rfl
  all_goals (go_simp; rfl)

theorem run_mk (n : Nat) (x : Int) (hx : x = n) (hn : n ≤ 4096) (W : World) : (Instr.makeSlice 22 (.int .i64 0) (.int .i64 x)).run Yba.prog W = .ok (.slice (some ⟨W.heap.size, 0, none⟩) 0 n) (W.alloc (.cells (madeCells #[.int .u8 0] n) 5)) := by
  subst hx
  obtain ⟨i, hi, hzz⟩ := Option.map_eq_some_iff.1 info5
  simp only [Prod.mk.injEq] at hzz
  obtain ⟨hz, hs, hb⟩ := hzz
  have hr := run_make (P := Yba.prog) W 22 5 i (.int .u8 0) Yba.underlying22 hi hz .i64 .i64 0 n (by omega) (by omega) (by rw [hb]; omega) (by omega)
  simp only [Int.toNat_natCast, hs, Nat.mul_one] at hr
  exact hr

/-- THE WORLD WHILE 'full' IS BUILT: old memory is as it was; the picks' box lies at the first new block; 'full' is the second, its first n bytes are L. -/
structure St (w wr : World) (xs : Nat → Int) (C n : Nat) (L : List Int) : Prop where
  below : Below w.heap.size w wr
  size : w.heap.size + 2 ≤ wr.heap.size
  pick : ∀ j, j < 4 → wr.cell? ⟨w.heap.size, j, none⟩ = some (.int .u8 (xs j))
  own : wr.ownsRow (w.heap.size + 1) 5 1 (.slice (some ⟨w.heap.size + 1, 0, none⟩) n C) n (L.map (Value.int .u8))

theorem St.alloc {w wr : World} {xs : Nat → Int} {C n : Nat} {L : List Int} (h : St w wr xs C n L) (o : Obj) : St w (wr.alloc o) xs C n L := by
  have hs := h.size
  refine ⟨h.below.alloc (by omega) o, by simp; omega, fun j hj => ?_, h.own.alloc o⟩
  rw [World.cell?_alloc_old _ _ _ (by show w.heap.size ≠ wr.heap.size; omega)]
  exact h.pick j hj

theorem St.grown {w wr w' : World} {xs : Nat → Int} {C n n' : Nat} {L L' : List Int} (h : St w wr xs C n L) (ho : w'.ownsRow (w.heap.size + 1) 5 1 (.slice (some ⟨w.heap.size + 1, 0, none⟩) n' C) n' (L'.map (Value.int .u8)))
    (hg : wr.grownBy w' (some (w.heap.size + 1))) : St w w' xs C n' L' := by
  have hs := h.size
  refine ⟨h.below.grown hg (by omega) (fun k e => by cases e; omega), by have := hg.size; omega, fun j hj => ?_, ho⟩
  exact hg.cell (h.pick j hj) (by simp)

theorem St.src {w wr : World} {xs : Nat → Int} {C n : Nat} {L : List Int} (h : St w wr xs C n L) {v : Value} {m : Nat} {zs : List Int} (hv : SrcIs w v m zs) : SrcIs wr v m zs := hv.later h.below

theorem st_start (w : World) (x0 x1 x2 x3 : Int) (C : Nat) (hC : C ≤ 4096) :
    St w ((w.alloc (.cells #[.int .u8 x0, .int .u8 x1, .int .u8 x2, .int .u8 x3] 35)).alloc (.cells (madeCells #[.int .u8 0] C) 5)) (fun j => [x0, x1, x2, x3].getD j 0) C 0 [] := by
  refine ⟨((Below.refl _ _).alloc (Nat.le_refl _) _).alloc (by simp) _, by simp, fun j hj => ?_, ?_⟩
  · rw [World.cell?_alloc_old _ _ _ (by show w.heap.size ≠ (w.alloc _).heap.size; simp)]
    have hj' : j = 0 ∨ j = 1 ∨ j = 2 ∨ j = 3 := by omega
    rcases hj' with rfl | rfl | rfl | rfl <;> simp
  · have h := World.ownsRow_made (base := w.heap.size + 1) (e := 5) (size := 1) (w.alloc (.cells #[.int .u8 x0, .int .u8 x1, .int .u8 x2, .int .u8 x3] 35)) (madeCells #[.int .u8 0] C) C (by simp) (by unfold maxLen; omega) (by simp [size_madeCells])
    simpa using h

theorem St.cells {w wr : World} {xs : Nat → Int} {C n : Nat} {L : List Int} (h : St w wr xs C n L) (hn : L.length = n) : ∀ j, j < n → wr.cell? ⟨w.heap.size + 1, j, none⟩ = some (.int .u8 (L.getD j 0)) := by
  intro j hj
  have := h.own.cells (g := w.heap.size + 1) rfl j (.int .u8 (L.getD j 0)) (by
    rw [List.getElem?_map, List.getD_eq_getElem?_getD, List.getElem?_eq_getElem (by omega)]; rfl)
  have hadd : (⟨w.heap.size + 1, 0, none⟩ : Addr).add j = ⟨w.heap.size + 1, j, none⟩ := by unfold Addr.add; split <;> simp_all
  rwa [hadd] at this

theorem wpList_append_st (w : World) {wr : World} {ops : Array Oper} {rest : List Oper} {o : Oper} {a : Act} {Q : Exit → Act → World → Prop} (hgd : o.guard = none) (s x : Operand)
    (ho : o.op = .call { callee := .builtin .append, args := #[s, x], argTypes := #[22, 22] })
    (xs : Nat → Int) (C n : Nat) (L : List Int) (hs : a.eval s = .slice (some ⟨w.heap.size + 1, 0, none⟩) n C) (hst : St w wr xs C n L)
    (v : Value) (m : Nat) (zs : List Int) (hx : a.eval x = v) (hsrc : SrcIs wr v m zs)
    (n' : Nat) (hn' : n + m = n') (L' : List Int) (hL : L ++ zs = L') (hroom : n' ≤ C)
    (h : ∀ w', St w w' xs C n' L' → wpList Yba.prog ops Q rest (a.put o.dst (.slice (some ⟨w.heap.size + 1, 0, none⟩) n' C)) w') : wpList Yba.prog ops Q (o :: rest) a wr := by
  obtain ⟨i0, hi, hzz⟩ := Option.map_eq_some_iff.1 info5
  simp only [Prod.mk.injEq] at hzz
  obtain ⟨_, hsz, _⟩ := hzz
  exact wpList_append_from wr hgd s x 22 ho (w.heap.size + 1) 5 i0 Yba.underlying22 hi hsz (w.heap.size + 1) n C L hs hst.own v m zs hx hsrc n' hn' L' hL hroom fun w' h1 h2 => h w' (hst.grown h1 h2)

theorem cell3 {w : World} {c : Array Value} {i : Nat} {t : TypeId} {v : Value} (hv : c[i]? = some v := by rfl) : (w.alloc (.cells c t)).cell? ⟨w.heap.size, i, none⟩ = some v := by
  have hb : (w.alloc (.cells c t)).heap[w.heap.size]? = some (.cells c t (0, 0)) := heap_alloc_new w _
  simp only [World.cell?, hb]
  exact hv

theorem cell_alloc_below {w : World} {N j : Nat} {o : Obj} {v : Value} (hB : N + 2 ≤ w.heap.size) (h : w.cell? ⟨N + 1, j, none⟩ = some v) : (w.alloc o).cell? ⟨N + 1, j, none⟩ = some v := by
  rw [World.cell?_alloc_old _ _ _ (by show N + 1 ≠ w.heap.size; omega)]
  exact h

theorem src_two (w : World) (a b : Int) : SrcIs (w.alloc (.cells #[.int .u8 a, .int .u8 b] 5)) (.slice (some ⟨w.heap.size, 0, none⟩) 2 2) 2 [a, b] := by
  refine .inr ⟨_, 2, rfl, rfl, fun j hj => ?_⟩
  have hj' : j = 0 ∨ j = 1 := by omega
  rcases hj' with rfl | rfl <;> simp [Addr.add]

theorem src_one (w : World) (a : Int) : SrcIs (w.alloc (.cells #[.int .u8 a] 5)) (.slice (some ⟨w.heap.size, 0, none⟩) 1 1) 1 [a] := by
  refine .inr ⟨_, 1, rfl, rfl, fun j hj => ?_⟩
  have hj' : j = 0 := by omega
  subst hj'
  simp [Addr.add]

set_option maxHeartbeats 2000000 in
set_option maxRecDepth 100000 in
theorem built_any (a0 a3 : Option Addr) (P S c0 c3 : Nat) (pre suf : List Int) (x0 x1 x2 x3 : Int) (cut : Int) (w : World) (hP : P ≤ 512) (hS : S ≤ 512)
    (h0 : SrcIs w (.slice a0 P c0) P pre) (h3 : SrcIs w (.slice a3 S c3) S suf) (hpre : pre.length = P) (hsuf : suf.length = S) (hp : ∀ z ∈ pre, 0 ≤ z ∧ z ≤ 255) (hs : ∀ z ∈ suf, 0 ≤ z ∧ z ≤ 255) (hc0 : 0 ≤ cut) (hc1 : cut ≤ 255) (q : Nat → Int) (hq : q = fun j => [x0, x1, x2, x3].getD j 0 % 30) (hb : ∀ j, 0 ≤ [x0, x1, x2, x3].getD j 0 ∧ [x0, x1, x2, x3].getD j 0 ≤ 255) :
    Calls Yba.prog 4 #[.slice a0 P c0, .agg #[.int .u8 x0, .int .u8 x1, .int .u8 x2, .int .u8 x3], .int .u8 cut, .slice a3 S c3] w fun e w' => e = .returned (.bool true) ∧ Below w.heap.size w w' := by
  have p1 : ¬ (512 : Int) < (P : Int) := by omega
  have p2 : ¬ (512 : Int) < (S : Int) := by omega
  have hmk := run_mk (P + 6 + S) ((P : Int) + 6 + (S : Int)) (by omega) (by omega)
  have hst0 := st_start w x0 x1 x2 x3 (P + 6 + S) (by omega)
  generalize hX : (fun j => [x0, x1, x2, x3].getD j 0) = X at hst0
  have HX : Hid (X = fun j => [x0, x1, x2, x3].getD j 0) := hX.symm
  have HQ : Hid (q = fun j => [x0, x1, x2, x3].getD j 0 % 30) := hq
  have HB : Hid (∀ j, 0 ≤ [x0, x1, x2, x3].getD j 0 ∧ [x0, x1, x2, x3].getD j 0 ≤ 255) := hb
  have HP : Hid (pre.length = P) := hpre
  have HS : Hid (suf.length = S) := hsuf
  have HPB : Hid (∀ z ∈ pre, 0 ≤ z ∧ z ≤ 255) := hp
  have HSB : Hid (∀ z ∈ suf, 0 ≤ z ∧ z ≤ 255) := hs
  clear hX hq hb hpre hsuf hp hs
  go_enter Yba.func4, Yba.ntmps4
  go_wp2_with (first
    | (at_builtin; refine wpList_append_st w rfl _ _ rfl _ _ 0 [] rfl hst0 _ P pre rfl (hst0.src h0) P (by omega) pre rfl (by omega) ?_; intro w1 hst1)
    | (at_builtin; refine wpList_append_st w rfl _ _ rfl _ _ P pre rfl (hst1.alloc _) _ 2 [92, 117] rfl (src_two _ _ _) (P + 2) (by omega) (pre ++ [92, 117]) rfl (by omega) ?_; intro w2 hst2))
  clear hst0 hst1 hmk
  go_loopg [9, 10, 11, 12] 4 (fun g f gv wv t wr => ∃ k : Nat, k ≤ 4 ∧ g = 4 - k ∧ t = .int .i64 k ∧ f = .slice (some ⟨w.heap.size + 1, 0, none⟩) (P + 2 + k) (P + 6 + S) ∧ gv = .bool (gd q k) ∧ wv = .int .i32 (wn q k) ∧ St w wr X (P + 6 + S) (P + 2 + k) (bytesTo pre q k))
  case atStart => exact ⟨0, by omega, rfl, rfl, rfl, rfl, rfl, hst2⟩
  case round =>
    clear hst2
    obtain ⟨k, hk, rfl, rfl, rfl, rfl, rfl, hst⟩ := hrel
    by_cases hlt : k < 4
    · have hltz : (k : Int) < 4 := by omega
      have hpk := hst.pick k hlt
      have hyb : 0 ≤ X k ∧ X k ≤ 255 := by rw [HX.out]; exact HB.out k
      have hqk : q k = X k % 30 := by rw [HQ.out, HX.out]
      have hv := wn_bd q (fun j => by rw [HQ.out]; show 0 ≤ _ % 30 ∧ _ % 30 < 30; omega) k
      have hv1 : wn q k ≤ 4095 := by
        have h4 : k = 0 ∨ k = 1 ∨ k = 2 ∨ k = 3 := by omega
        rcases h4 with rfl | rfl | rfl | rfl <;> simp at hv <;> omega
      have hv0 := hv.1
      clear hv
      generalize hvv : wn q k = v at *
      generalize hgg : gd q k = b at *
      generalize X k = y at *
      have HV : Hid (wn q k = v) := hvv
      have HG : Hid (gd q k = b) := hgg
      have HK : Hid (q k = y % 30) := hqk
      clear hvv hgg hqk
      have hrt := run_tbl (y % 30) (by omega) (by omega)
      obtain ⟨hy0, hy1⟩ := hyb
      go_wp2_with (first
        | (at_builtin; refine wpList_append_st w rfl _ _ rfl _ _ (P + 2 + k) (bytesTo pre q k) rfl (hst.alloc _) _ 1 [tbl (y % 30)] rfl (src_one _ _) (P + 2 + (k + 1)) (by omega) (bytesTo pre q (k + 1)) (by rw [← HK.out]; rfl) (by omega) ?_; intro w3 hst3))
      · go_roundg (4 - (k + 1))
        case measure => omega
        case rel => exact ⟨k + 1, by omega, rfl, by go_num, rfl, by rw [gd_lt HG.out HK.out (by omega)], by rw [wn_a HV.out HK.out ‹_›], hst3⟩
      · go_roundg (4 - (k + 1))
        case measure => omega
        case rel => exact ⟨k + 1, by omega, rfl, by go_num, rfl, by rw [gd_lt HG.out HK.out ‹_›], by rw [wn_b HV.out HK.out (by omega) ‹_›], hst3⟩
      · go_roundg (4 - (k + 1))
        case measure => omega
        case rel => exact ⟨k + 1, by omega, rfl, by go_num, rfl, by rw [gd_ge HK.out (by omega)], by rw [wn_c HV.out HK.out (by omega)], hst3⟩
    · have hk4 : k = 4 := by omega
      subst hk4
      obtain ⟨tn, htn⟩ : ∃ tn : Nat, cut % 8 = tn := ⟨(cut % 8).toNat, by omega⟩
      have htn8 : tn < 8 := by omega
      have hL : (bytesTo pre q 4 ++ suf).length = P + 6 + S := by rw [List.length_append, bytesTo_len, HP.out, HS.out]
      have HD := data_is pre suf q P HP.out
      have hacc := acc_is (fun j => (bytesTo pre q 4 ++ suf).getD j 0) q (P + 2) (fun j => by rw [HQ.out]; show 0 ≤ _ % 30 ∧ _ % 30 < 30; omega) 4 (fun j hj => HD.2.2 j hj)
      have hDb := data_bd pre suf q (fun j => by rw [HQ.out]; show 0 ≤ _ % 30 ∧ _ % 30 < 30; omega) HPB.out HSB.out
      generalize bytesTo pre q 4 = L4 at *
      generalize gd q 4 = b at *
      generalize wn q 4 = v at *
      have HAcc : Hid (acc (fun j => (L4 ++ suf).getD j 0) (P + 2) 4 = if b = true then some v else none) := hacc
      have HDD : Hid ((L4 ++ suf).getD P 0 = 92 ∧ (L4 ++ suf).getD (P + 1) 0 = 117 ∧ ∀ j, j < 4 → (L4 ++ suf).getD (P + 2 + j) 0 = tbl (q j)) := HD
      have HLL : Hid ((L4 ++ suf).length = P + 6 + S) := hL
      have HDb : Hid (∀ j, 0 ≤ (L4 ++ suf).getD j 0 ∧ (L4 ++ suf).getD j 0 ≤ 255) := hDb
      clear hacc HD hL hDb HX HQ HB HP HS HPB HSB
      by_cases ht : tn < 4
      · have hk1 : ¬ ((P : Int) + 6 + (S : Int)) < (P : Int) + 2 + (tn : Int) := by omega
        have ht4 : decide ((4 : Int) ≤ (tn : Int)) = false := by simp; omega
        go_wp2_with (first
          | (at_builtin; refine wpList_append_st w rfl _ _ rfl _ _ (P + 2 + 4) L4 rfl hst _ S suf rfl (hst.src h3) (P + 6 + S) (by omega) (L4 ++ suf) rfl (by omega) ?_; intro w4 hst4))
        have hsz4 := hst4.size
        refine (code_short w4.heap.size (w.heap.size + 1) (P + 2 + tn) (P + 6 + S) (fun j => (L4 ++ suf).getD j 0) P _ (by omega) (by omega) (by omega) (by exact cell3) (fun j hj => ?_) HDD.out.1 HDD.out.2.1).mono ?_
        · exact cell_alloc_below hsz4 (hst4.cells HLL.out j (by omega))
        rintro e w5 ⟨rfl, rfl⟩
        cases b
        all_goals
          go_wp2
          go_ret
          exact ⟨rfl, hst4.below.alloc (by omega) _⟩
      · have ht4 : decide ((4 : Int) ≤ (tn : Int)) = true := by simp; omega
        have bel : ∀ (w4 : World) o, St w w4 X (P + 6 + S) (P + 6 + S) (L4 ++ suf) → Below w.heap.size w (w4.alloc o) := fun w4 o h => h.below.alloc (by have := h.size; omega) o
        by_cases hk1 : ((P : Int) + 6 + (S : Int)) < (P : Int) + 2 + (tn : Int)
        · go_wp2_with (first
          | (at_builtin; refine wpList_append_st w rfl _ _ rfl _ _ (P + 2 + 4) L4 rfl hst _ S suf rfl (hst.src h3) (P + 6 + S) (by omega) (L4 ++ suf) rfl (by omega) ?_; intro w4 hst4))
          have hsz4 := hst4.size
          refine (code_whole w4.heap.size (w.heap.size + 1) (P + 6 + S) (P + 6 + S) (fun j => (L4 ++ suf).getD j 0) P _ (by omega) (by omega) (by omega) (by exact cell3) (fun j hj => ?_) HDb.out HDD.out.1 HDD.out.2.1).mono ?_
          · exact cell_alloc_below hsz4 (hst4.cells HLL.out j (by omega))
          rintro e w5 ⟨rfl, rfl⟩
          rw [HAcc.out]
          have hbel := bel w4 (.cells #[.slice (some ⟨w.heap.size + 1, 0, none⟩) (P + 6 + S) (P + 6 + S), .int .i64 0, .slice none 0 0, .slice none 0 0, .slice none 0 0, .slice none 0 0, .pointer none] 29) hst4
          cases b
          all_goals
            go_wp2
            go_ret
            exact ⟨rfl, hbel⟩
        · go_wp2_with (first
          | (at_builtin; refine wpList_append_st w rfl _ _ rfl _ _ (P + 2 + 4) L4 rfl hst _ S suf rfl (hst.src h3) (P + 6 + S) (by omega) (L4 ++ suf) rfl (by omega) ?_; intro w4 hst4))
          have hsz4 := hst4.size
          refine (code_whole w4.heap.size (w.heap.size + 1) (P + 2 + tn) (P + 6 + S) (fun j => (L4 ++ suf).getD j 0) P _ (by omega) (by omega) (by omega) (by exact cell3) (fun j hj => ?_) HDb.out HDD.out.1 HDD.out.2.1).mono ?_
          · exact cell_alloc_below hsz4 (hst4.cells HLL.out j (by omega))
          rintro e w5 ⟨rfl, rfl⟩
          rw [HAcc.out]
          have hbel := bel w4 (.cells #[.slice (some ⟨w.heap.size + 1, 0, none⟩) (P + 2 + tn) (P + 6 + S), .int .i64 0, .slice none 0 0, .slice none 0 0, .slice none 0 0, .slice none 0 0, .pointer none] 29) hst4
          cases b
          all_goals
            go_wp2
            go_ret
            exact ⟨rfl, hbel⟩

set_option maxHeartbeats 400000 in
theorem built_big (a0 a3 : Option Addr) (P S c0 c3 : Nat) (x0 x1 x2 x3 : Int) (cut : Int) (w : World) (h : 512 < P ∨ 512 < S) :
    Calls Yba.prog 4 #[.slice a0 P c0, .agg #[.int .u8 x0, .int .u8 x1, .int .u8 x2, .int .u8 x3], .int .u8 cut, .slice a3 S c3] w fun e w' => e = .returned (.bool true) ∧ Below w.heap.size w w' := by
  by_cases hP : 512 < P
  · have p1 : decide ((512 : Int) < (P : Int)) = true := by simp; omega
    go_enter Yba.func4, Yba.ntmps4
    go_wp2
    go_ret
    exact ⟨rfl, (Below.refl _ _).alloc (Nat.le_refl _) _⟩
  · have p1 : decide ((512 : Int) < (P : Int)) = false := by simp; omega
    have p2 : decide ((512 : Int) < (S : Int)) = true := by simp; omega
    go_enter Yba.func4, Yba.ntmps4
    go_wp2
    go_ret
    exact ⟨rfl, (Below.refl _ _).alloc (Nat.le_refl _) _⟩

end Go.Proofs.Ybulkccnm.Walks
