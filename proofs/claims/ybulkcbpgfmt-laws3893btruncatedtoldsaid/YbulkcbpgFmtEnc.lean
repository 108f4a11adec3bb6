/-
  Seat b3893aF: the encoders: varint, fix64, fix32, num, wt, enc.
-/
import Derived.Test.YbulkcbpgFmtLaw
import Derived.Deep.LoopGhost
import Derived.Laws.BitsAllLaws
import Derived.Laws.ShiftsVarLaws
namespace Go.Proofs.YbulkcbpgFmt
open Go.RowKit Go.Deep
set_option linter.unusedVariables false

/-! ### Rows of bytes -/

def bytes (L : List Int) : List Value := L.map (Value.int .u8)
theorem bytes_length (L : List Int) : (bytes L).length = L.length := by simp [bytes]
theorem bytes_append (L K : List Int) : bytes (L ++ K) = bytes L ++ bytes K := by simp [bytes]

/-- The slice v owns the bytes L. -/
abbrev BRow (w : World) (v : Value) (L : List Int) : Prop := Row w 5 v (bytes L)

/-- From v in w to v' in w': v' owns L'; nothing was touched but v's own row; v' lies where v lay or is new. -/
structure RowTo (w w' : World) (v v' : Value) (L' : List Int) : Prop where
  row : BRow w' v' L'
  chg : Chg (fun k => v.ownBlock = some k) w w'
  lies : ∀ k, v'.ownBlock = some k → v.ownBlock = some k ∨ w.heap.size ≤ k

theorem RowTo.refl {w : World} {v : Value} {L : List Int} (h : BRow w v L) : RowTo w w v v L := ⟨h, Chg.refl _ _, fun _ hk => .inl hk⟩

theorem RowTo.trans {w w1 w2 : World} {v v1 v2 : Value} {L1 L2 : List Int} (h : RowTo w w1 v v1 L1) (k : RowTo w1 w2 v1 v2 L2) : RowTo w w2 v v2 L2 := by
  refine ⟨k.row, h.chg.trans k.chg (fun b hb hG => ?_), fun b hb => ?_⟩
  · rcases h.lies b hG with e | e
    · exact e
    · omega
  · rcases k.lies b hb with e | e
    · exact h.lies b e
    · exact .inr (Nat.le_trans h.chg.size e)

theorem RowTo.alloc {w w' : World} {v v' : Value} {L' : List Int} (h : RowTo w w' v v' L') (o : Obj) : RowTo w (w'.alloc o) v v' L' :=
  ⟨h.row.of_block (fun _ hk => blk_alloc_lt _ _ _ (h.row.lt hk)), h.chg.alloc o, h.lies⟩

section
variable {w W : World} {o : Oper} {a : Act} {K : Act → World → Prop} {Q : Exit → Act → World → Prop}

theorem wp_row_append (s x : Operand) (ho : o.op = .call { callee := .builtin .append, args := #[s, x], argTypes := #[24, 24] })
    (v0 v : Value) (L : List Int) (hs : a.eval s = v) (h : RowTo w W v0 v L) (ad : Addr) (m c : Nat) (ys : List Int) (hx : a.eval x = .slice (some ad) m c) (hl : ys.length = m) (hc : ∀ j u, (bytes ys)[j]? = some u → W.cell? (ad.add j) = some u)
    (hm : 0 < m) (n : Nat) (hn : n = L.length + m) (hb : n ≤ 1099511627776)
    (hK : ∀ g cap w1, RowTo w w1 v0 (.slice (some ⟨g, 0, none⟩) n cap) (L ++ ys) → K (a.put o.dst (.slice (some ⟨g, 0, none⟩) n cap)) w1) : o.wp Ybaf.prog a W K Q := by
  obtain ⟨inf, hinf, hzz⟩ := Option.map_eq_some_iff.1 info5
  simp only [Prod.mk.injEq] at hzz
  obtain ⟨hz, hsz, hby⟩ := hzz
  subst hn
  have hrow := h.row
  refine wp_append_lies W s x 24 ho 0 5 inf (.int .u8 0) 1 1 Ybaf.underlying24 hinf hz hsz hby rfl (by decide) v (bytes L).length (bytes L) hs hrow ad m c (bytes ys) hx (by rw [bytes_length]; omega) hc (fun u hu => ?_) hm (by rw [bytes_length]; unfold maxLen; omega) (by rw [bytes_length]; omega) (Nat.zero_le _) _ rfl ?_
  · obtain ⟨y, _, rfl⟩ := List.mem_map.1 hu; rfl
  · intro g cap w1 hown hg hat hlt
    rw [bytes_length] at hown ⊢
    refine hK g cap w1 (h.trans ⟨?_, (Chg.refl _ _).grown hg (fun _ hk _ => hk), fun k hk => ?_⟩)
    · show w1.ownsRow 0 5 1 _ (bytes (L ++ ys)).length (bytes (L ++ ys))
      rw [bytes_length, bytes_append, List.length_append, hl]; exact hown
    · have hk' : g = k := by simpa [Value.ownBlock] using hk
      subst hk'
      rcases hat with e | e
      · exact .inl e
      · exact .inr (by omega)

theorem wpList_row_append {ops : Array Oper} {rest : List Oper} (hgd : o.guard = none) (s x : Operand) (ho : o.op = .call { callee := .builtin .append, args := #[s, x], argTypes := #[24, 24] })
    (v0 v : Value) (L : List Int) (hs : a.eval s = v) (h : RowTo w W v0 v L) (ad : Addr) (m c : Nat) (ys : List Int) (hx : a.eval x = .slice (some ad) m c) (hl : ys.length = m) (hc : ∀ j u, (bytes ys)[j]? = some u → W.cell? (ad.add j) = some u)
    (hm : 0 < m) (n : Nat) (hn : n = L.length + m) (hb : n ≤ 1099511627776)
    (hK : ∀ g cap w1, RowTo w w1 v0 (.slice (some ⟨g, 0, none⟩) n cap) (L ++ ys) → wpList Ybaf.prog ops Q rest (a.put o.dst (.slice (some ⟨g, 0, none⟩) n cap)) w1) : wpList Ybaf.prog ops Q (o :: rest) a W :=
  wpList_plain hgd fun _ hKK => wp_row_append s x ho v0 v L hs h ad m c ys hx hl hc hm n hn hb fun g cap w1 hA => hKK _ _ (hK g cap w1 hA)
end

/-! ### The plain functions -/

/-- A varint's bytes, f of them at the most. -/
def vbF : Nat → Int → List Int
  | 0, _ => []
  | f + 1, x => if x < 128 then [x] else (x % 128 + 128) :: vbF f (x / 128)
def vb (x : Int) : List Int := vbF 10 x

/-- The first k bytes of v, the least first. -/
def fx (v : Int) : Nat → List Int
  | 0 => []
  | k + 1 => fx v k ++ [v / 2 ^ (8 * k) % 256]

set_option maxRecDepth 10000 in
theorem or128 (y : Int) (h0 : 0 ≤ y) (h1 : y < 256) : bits .or .u8 y 128 = y % 128 + 128 := by
  obtain ⟨n, rfl⟩ := Int.eq_ofNat_of_zero_le h0
  rw [show (128 : Int) = ((128 : Nat) : Int) from rfl, u8_or_nat n 128 (by omega) (by omega)]
  have key : ∀ n, n < 256 → (n ||| 128) = n % 128 + 128 := by decide
  rw [key n (by omega)]
  omega

theorem fx_len (v : Int) (k : Nat) : (fx v k).length = k := by induction k with | zero => rfl | succ k ih => simp [fx, ih]

theorem vbF_len (f : Nat) (x : Int) : (vbF f x).length ≤ f := by
  induction f generalizing x with
  | zero => simp [vbF]
  | succ f ih =>
    unfold vbF
    split
    · simp
    · simp only [List.length_cons]; have := ih (x / 128); omega

set_option maxHeartbeats 800000 in
theorem varint_any (v : Value) (L : List Int) (x : Int) (w : World) (h : BRow w v L) (h0 : 0 ≤ x) (h1 : x < 18446744073709551616) (hb : L.length ≤ 549755813888) :
    Calls Ybaf.prog 10 #[v, .int .u64 x] w fun e w' => ∃ v', e = .returned v' ∧ RowTo w w' v v' (L ++ vb x) := by
  go_enter Ybaf.func10, Ybaf.ntmps10
  go_wp2_with fail
  go_loopg [0, 1] x.toNat (fun g b y wr => ∃ (P : List Int) (f : Nat) (z : Int), y = .int .u64 z ∧ 0 ≤ z ∧ z ≤ x ∧ z < 128 ^ f ∧ 1 ≤ f ∧ g = z.toNat ∧ P.length + f = 10 ∧ vb x = P ++ vbF f z ∧ RowTo w wr v b (L ++ P))
  case atStart => exact ⟨[], 10, x, rfl, h0, Int.le_refl _, by omega, by omega, rfl, rfl, rfl, by simpa using RowTo.refl h⟩
  case round =>
    obtain ⟨P, f, z, rfl, z0, zx, zf, f1, rfl, hPf, hvb, hR⟩ := hrel
    have HV : Hid (vb x = P ++ vbF f z) := hvb
    have HF : Hid (P.length + f = 10) := hPf
    have hPl : P.length ≤ 10 := by omega
    clear hvb hPf
    have hlen : (L ++ P).length = L.length + P.length := List.length_append
    have HL : Hid ((L ++ P).length = L.length + P.length) := hlen
    clear hlen
    by_cases hz : 128 ≤ z
    · obtain ⟨f, rfl⟩ : ∃ f', f = f' + 1 := ⟨f - 1, by omega⟩
      have hf1 : 1 ≤ f := by
        rcases Nat.eq_zero_or_pos f with e | e
        · subst e; simp at zf; omega
        · exact e
      go_wp2_with (first
        | (at_builtin; refine wpList_row_append rfl _ _ rfl v u0 (L ++ P) rfl (hR.alloc _) ⟨wr.heap.size, 0, none⟩ 1 1 [bits .or .u8 (z % 256) 128] rfl rfl (one_cell rfl) (by decide) (L.length + P.length + 1) (by rw [HL.out]) (by omega) ?_; intro g cap w1 hR1))
      go_roundg (z / 128).toNat
      case measure => omega
      case rel =>
        refine ⟨P ++ [z % 128 + 128], f, z / 128, rfl, by omega, by omega, ?_, hf1, rfl, ?_, ?_, ?_⟩
        · rw [Int.pow_succ] at zf; omega
        · have := HF.out; simp; omega
        · rw [HV.out]
          show P ++ (if z < 128 then [z] else (z % 128 + 128) :: vbF f (z / 128)) = _
          rw [if_neg (by omega)]; simp
        · rw [or128 _ (by omega) (by omega), show z % 256 % 128 = z % 128 by omega] at hR1
          rw [← List.append_assoc]; exact hR1
    · have hf : ∃ f', f = f' + 1 := ⟨f - 1, by omega⟩
      go_wp2_with (first
        | (at_builtin; refine wpList_row_append rfl _ _ rfl v u0 (L ++ P) rfl (hR.alloc _) ⟨wr.heap.size, 0, none⟩ 1 1 [z] rfl rfl (one_cell rfl) (by decide) (L.length + P.length + 1) (by rw [HL.out]) (by omega) ?_; intro g cap w1 hR1))
      go_ret
      refine ⟨_, rfl, ?_⟩
      obtain ⟨f, rfl⟩ := hf
      rw [HV.out]
      show RowTo w w1 v _ (L ++ (P ++ (if z < 128 then [z] else (z % 128 + 128) :: vbF f (z / 128))))
      rw [if_pos (by omega), ← List.append_assoc]; exact hR1

set_option maxHeartbeats 800000 in
theorem fix64_any (v : Value) (L : List Int) (x : Int) (w : World) (h : BRow w v L) (h0 : 0 ≤ x) (h1 : x < 18446744073709551616) (hb : L.length ≤ 549755813888) :
    Calls Ybaf.prog 11 #[v, .int .u64 x] w fun e w' => ∃ v', e = .returned v' ∧ RowTo w w' v v' (L ++ fx x 8) := by
  go_enter Ybaf.func11, Ybaf.ntmps11
  go_wp2_with fail
  go_loopg [0, 5] 8 (fun g b y wr => ∃ k : Nat, k ≤ 8 ∧ g = 8 - k ∧ y = .int .i64 k ∧ RowTo w wr v b (L ++ fx x k))
  case atStart => exact ⟨0, by omega, rfl, rfl, by simpa [fx] using RowTo.refl h⟩
  case round =>
    obtain ⟨k, hk, rfl, rfl, hR⟩ := hrel
    by_cases hlt : k < 8
    · have hltz : (k : Int) < 8 := by omega
      have HL : Hid ((L ++ fx x k).length = L.length + k) := by show (L ++ fx x k).length = L.length + k; rw [List.length_append, fx_len]
      go_wp2_with (first
        | (at_builtin; refine wpList_row_append rfl _ _ rfl v u0 (L ++ fx x k) rfl (hR.alloc _) ⟨wr.heap.size, 0, none⟩ 1 1 [x / 2 ^ (8 * k) % 256] rfl rfl (one_cell rfl) (by decide) (L.length + k + 1) (by rw [HL.out]) (by omega) ?_; intro g cap w1 hR1))
      go_roundg (8 - (k + 1))
      case measure => omega
      case rel => exact ⟨k + 1, by omega, rfl, by go_num, by rw [fx, ← List.append_assoc]; exact hR1⟩
    · have hk8 : k = 8 := by omega
      subst hk8
      go_wp2
      go_ret
      exact ⟨_, rfl, hR⟩

set_option maxHeartbeats 800000 in
theorem fix32_any (v : Value) (L : List Int) (x : Int) (w : World) (h : BRow w v L) (h0 : 0 ≤ x) (h1 : x < 18446744073709551616) (hb : L.length ≤ 549755813888) :
    Calls Ybaf.prog 17 #[v, .int .u64 x] w fun e w' => ∃ v', e = .returned v' ∧ RowTo w w' v v' (L ++ fx x 4) := by
  go_enter Ybaf.func17, Ybaf.ntmps17
  go_wp2_with fail
  go_loopg [0, 5] 4 (fun g b y wr => ∃ k : Nat, k ≤ 4 ∧ g = 4 - k ∧ y = .int .i64 k ∧ RowTo w wr v b (L ++ fx x k))
  case atStart => exact ⟨0, by omega, rfl, rfl, by simpa [fx] using RowTo.refl h⟩
  case round =>
    obtain ⟨k, hk, rfl, rfl, hR⟩ := hrel
    by_cases hlt : k < 4
    · have hltz : (k : Int) < 4 := by omega
      have HL : Hid ((L ++ fx x k).length = L.length + k) := by show (L ++ fx x k).length = L.length + k; rw [List.length_append, fx_len]
      go_wp2_with (first
        | (at_builtin; refine wpList_row_append rfl _ _ rfl v u0 (L ++ fx x k) rfl (hR.alloc _) ⟨wr.heap.size, 0, none⟩ 1 1 [x / 2 ^ (8 * k) % 256] rfl rfl (one_cell rfl) (by decide) (L.length + k + 1) (by rw [HL.out]) (by omega) ?_; intro g cap w1 hR1))
      go_roundg (4 - (k + 1))
      case measure => omega
      case rel => exact ⟨k + 1, by omega, rfl, by go_num, by rw [fx, ← List.append_assoc]; exact hR1⟩
    · have hk8 : k = 4 := by omega
      subst hk8
      go_wp2
      go_ret
      exact ⟨_, rfl, hR⟩

/-- The field numbers and wire types of the seven kinds. -/
def num : Nat → Int
  | 0 => 1 | 1 => 2 | 2 => 3 | 3 => 4 | 4 => 5 | 5 => 6 | _ => 16
def wt : Nat → Int
  | 0 => 1 | 1 => 5 | 2 => 5 | 3 => 1 | 4 => 5 | 5 => 1 | _ => 0

theorem seven (i : Nat) (hi : i < 7) : i = 0 ∨ i = 1 ∨ i = 2 ∨ i = 3 ∨ i = 4 ∨ i = 5 ∨ i = 6 := by omega

theorem num_any (i : Nat) (hi : i < 7) (w : World) : Calls Ybaf.prog 14 #[.int .i64 i] w fun e w' => e = .returned (.int .u64 (num i)) ∧ w' = w := by
  rcases seven i hi with rfl | rfl | rfl | rfl | rfl | rfl | rfl
  all_goals
    go_enter Ybaf.func14, Ybaf.ntmps14
    go_wp2
    go_ret
    exact ⟨rfl, rfl⟩

theorem wt_any (i : Nat) (hi : i < 7) (w : World) : Calls Ybaf.prog 15 #[.int .i64 i] w fun e w' => e = .returned (.int .u64 (wt i)) ∧ w' = w := by
  rcases seven i hi with rfl | rfl | rfl | rfl | rfl | rfl | rfl
  all_goals
    go_enter Ybaf.func15, Ybaf.ntmps15
    go_wp2
    go_ret
    exact ⟨rfl, rfl⟩

/-- One value of kind i on the wire. -/
def encV : Nat → Int → List Int
  | 0, v => fx v 8 | 1, v => fx v 4 | 2, v => fx v 4 | 3, v => fx v 8 | 4, v => fx v 4 | 5, v => fx v 8 | _, v => vb v

set_option maxHeartbeats 800000 in
theorem enc_any (i : Nat) (hi : i < 7) (v : Value) (L : List Int) (x : Int) (w : World) (h : BRow w v L) (h0 : 0 ≤ x) (h1 : x < 18446744073709551616) (hb : L.length ≤ 549755813888) :
    Calls Ybaf.prog 16 #[v, .int .i64 i, .int .u64 x] w fun e w' => ∃ v', e = .returned v' ∧ RowTo w w' v v' (L ++ encV i x) := by
  rcases seven i hi with rfl | rfl | rfl | rfl | rfl | rfl | rfl
  all_goals
    go_enter Ybaf.func16, Ybaf.ntmps16
    go_wp2_with fail
    refine (wt_any _ hi w).mono ?_
    rintro e w1 ⟨rfl, rfl⟩
    simp only [wt]
    go_wp2_with fail
    first
    | refine (fix64_any v L x _ h h0 h1 hb).mono ?_
    | refine (fix32_any v L x _ h h0 h1 hb).mono ?_
    | refine (varint_any v L x _ h h0 h1 hb).mono ?_
    rintro e w2 ⟨v', rfl, hR⟩
    go_wp2
    go_ret
    exact ⟨v', rfl, hR⟩

end Go.Proofs.YbulkcbpgFmt
