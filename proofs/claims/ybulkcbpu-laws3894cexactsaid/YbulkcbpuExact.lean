/-
  Seat b3894a, LawS3894CExact: the three float operations at whatever draws, the stand-ins of sync/atomic and math, moveShare, the law's walk.
-/
import Derived.Test.YbulkcbpuRows
import Derived.WalkKit
import Derived.WalkSpells
import Derived.RegionTactic
import Derived.Laws.LoneSync
import Derived.Laws.FloatArith
import Derived.Deep.LoopGhost
namespace Go.Proofs.Ybulkcbpu.Walks
open Go.RowKit

/-! ### Floats: what the three operations give, NaN or not -/

def NaN (b : Nat) : Prop := ∃ s f, Ieee.double.read b = .nan s f

/-- Whether 'f != f'. -/
def isn (b : Nat) : Bool := Ieee.double.order b b != some .eq

/-- The bits of the NaN that the tape gives. -/
def nanOf (w : World) (x y : Nat) : Nat := (Question.nanBits .f64 x y).cut (w.tape w.drawn (.nanBits .f64 x y))

theorem nanOf_nan (w : World) (x y : Nat) : NaN (nanOf w x y) := by
  unfold nanOf Question.cut
  generalize w.tape w.drawn (.nanBits .f64 x y) = t
  have h1 : t % 2 < 2 := Nat.mod_lt _ (by omega)
  have h2 : (t / 2) % 4503599627370495 < 4503599627370495 := Nat.mod_lt _ (by omega)
  show NaN (t % 2 * 9223372036854775808 + 9218868437227405312 + 1 + t / 2 % 4503599627370495)
  generalize hr : t / 2 % 4503599627370495 = r at h2 ⊢
  generalize hs : t % 2 = s at h1 ⊢
  have e : (s * 9223372036854775808 + 9218868437227405312 + 1 + r) % 9223372036854775808 = 9218868437227405313 + r := by omega
  refine ⟨(s * 9223372036854775808 + 9218868437227405312 + 1 + r) / 9223372036854775808 % 2 == 1, 9218868437227405313 + r - 9218868437227405312, ?_⟩
  unfold Ieee.Format.read
  have w1 : Ieee.double.signWeight = 9223372036854775808 := by decide
  have w2 : Ieee.double.binade = 4503599627370496 := by decide
  have w3 : Ieee.double.infRung = 9218868437227405312 := by decide
  simp only [w1, w2, w3, e]
  rw [if_neg (by omega), if_neg (by omega), if_neg (by omega)]

theorem isn_nan {b : Nat} (h : NaN b) : isn b = true := by
  obtain ⟨s, f, h⟩ := h
  simp [isn, Ieee.Format.order, h, Ieee.Datum.order]

theorem mul_nan {b : Nat} (y : Nat) (h : NaN b) : floatBits .mul .f64 b y = none := by
  obtain ⟨s, f, h⟩ := h
  show (((Ieee.double.read b).product (Ieee.double.read y)).map _ : Option Nat) = none
  rw [h]; rfl

theorem add_nan {b : Nat} (y : Nat) (h : NaN b) : floatBits .add .f64 y b = none := by
  obtain ⟨s, f, h⟩ := h
  show (((Ieee.double.read y).sum (Ieee.double.read b)).map _ : Option Nat) = none
  rw [h]
  cases Ieee.double.read y <;> rfl

theorem run_nan (op : BinOp) (hop : op = .sub ∨ op = .mul ∨ op = .add) (x y : Nat) (h : floatBits op .f64 x y = none) (w : World) :
    (binOp op 48 (.float .f64 x) (.float .f64 y)).run Yba.prog w = .ok (.float .f64 (nanOf w x y)) w.drew := by
  unfold floatBits at h
  rcases hop with rfl | rfl | rfl <;> simp only at h <;> simp [binOp, Op.floatArith, h, Question.forced, nanOf]

/-- What an operation gives, and the world behind it: a draw where the answer is a NaN. -/
def ar (op : BinOp) (x y : Nat) (w : World) : Nat := match floatBits op .f64 x y with | some r => r | none => nanOf w x y
def af (op : BinOp) (x y : Nat) (w : World) : World := match floatBits op .f64 x y with | some _ => w | none => w.drew

theorem run_ar (op : BinOp) (hop : op = .sub ∨ op = .mul ∨ op = .add) (x y : Nat) (w : World) :
    (binOp op 48 (.float .f64 x) (.float .f64 y)).run Yba.prog w = .ok (.float .f64 (ar op x y w)) (af op x y w) := by
  unfold ar af
  cases h : floatBits op .f64 x y with
  | some r => exact run_float_arith w op 48 .f64 x y r h
  | none => exact run_nan op hop x y h w

theorem af_cell (op : BinOp) (x y : Nat) (w : World) (a : Addr) : (af op x y w).cell? a = w.cell? a := by unfold af; split <;> rfl
theorem af_frozen (op : BinOp) (x y : Nat) (w : World) (a : Addr) : (af op x y w).frozen? a = w.frozen? a := by unfold af; split <;> rfl
theorem af_below (op : BinOp) (x y : Nat) (w w0 : World) (B : Nat) (h : Below B w0 w) : Below B w0 (af op x y w) := by unfold af; split <;> first | exact h | exact h.drew

/-- THE PLAIN LAW: two reckonings of 's + (x-s)*weight', each at whatever draws: the same number, or a NaN each. -/
theorem two_ways (X s wt : Nat) (w1 w2 w3 v1 v2 v3 : World) :
    (NaN (ar .add s (ar .mul (ar .sub X s w1) wt w2) w3) ∧ NaN (ar .add s (ar .mul (ar .sub X s v1) wt v2) v3)) ∨ ar .add s (ar .mul (ar .sub X s w1) wt w2) w3 = ar .add s (ar .mul (ar .sub X s v1) wt v2) v3 := by
  have hadd : ∀ x w, NaN x → NaN (ar .add s x w) := fun x w h => by unfold ar; rw [add_nan s h]; exact nanOf_nan _ _ _
  have hmul : ∀ x w, NaN x → NaN (ar .mul x wt w) := fun x w h => by unfold ar; rw [mul_nan wt h]; exact nanOf_nan _ _ _
  have e1 : ∀ op x y (w : World), floatBits op .f64 x y = none → NaN (ar op x y w) := fun op x y w h => by unfold ar; rw [h]; exact nanOf_nan _ _ _
  have e2 : ∀ op x y (w : World) r, floatBits op .f64 x y = some r → ar op x y w = r := fun op x y w r h => by unfold ar; rw [h]
  cases h1 : floatBits .sub .f64 X s with
  | none => exact .inl ⟨hadd _ _ (hmul _ _ (e1 _ _ _ _ h1)), hadd _ _ (hmul _ _ (e1 _ _ _ _ h1))⟩
  | some d =>
    rw [e2 _ _ _ w1 _ h1, e2 _ _ _ v1 _ h1]
    cases h2 : floatBits .mul .f64 d wt with
    | none => exact .inl ⟨hadd _ _ (e1 _ _ _ _ h2), hadd _ _ (e1 _ _ _ _ h2)⟩
    | some m =>
      rw [e2 _ _ _ w2 _ h2, e2 _ _ _ v2 _ h2]
      cases h3 : floatBits .add .f64 s m with
      | none => exact .inl ⟨e1 _ _ _ _ h3, e1 _ _ _ _ h3⟩
      | some r => rw [e2 _ _ _ w3 _ h3, e2 _ _ _ v3 _ h3]; exact .inr rfl

theorem run_isn (b : Nat) (w : World) : (binOp .neq 48 (.float .f64 b) (.float .f64 b)).run Yba.prog w = .ok (.bool (isn b)) w := by
  simp [binOp, Op.floatCmp, isn]; rfl

/-! ### The stand-ins -/

theorem bits_run (b : Nat) (w : World) : (callFunc 13 #[.float .f64 b]).run Yba.prog w = .ok (.value (.int .u64 b)) w := by
  rw [run_callFunc_extern Yba.func13 (by kernel_rfl) (by kernel_rfl) (by kernel_rfl) (e := Extern.MathFloatBits.float64bits) (by kernel_rfl)]
  rfl

theorem frombits_run (b : Int) (w : World) : (callFunc 11 #[.int .u64 b]).run Yba.prog w = .ok (.value (.float .f64 b.toNat)) w := by
  rw [run_callFunc_extern Yba.func11 (by kernel_rfl) (by kernel_rfl) (by kernel_rfl) (e := Extern.MathFloatBits.float64frombits) (by kernel_rfl)]
  rfl

theorem load_run (a : Addr) (x : Int) (w : World) (hc : w.cell? a = some (.int .u64 x)) : (callFunc 16 #[.pointer (some a)]).run Yba.prog w = .ok (.value (.int .u64 x)) w :=
  run_call_load Yba.func16 (by kernel_rfl) (by kernel_rfl) (by kernel_rfl) .u64 (by kernel_rfl) hc

theorem store_run (a : Addr) (x : Int) (u : Value) (w : World) (hc : w.cell? a = some u) (hz : w.frozen? a = false) : (callFunc 14 #[.pointer (some a), .int .u64 x]).run Yba.prog w = .ok (.value (.tuple #[])) (w.setCell a (.int .u64 x)) :=
  run_call_store Yba.func14 (by kernel_rfl) (by kernel_rfl) (by kernel_rfl) (by kernel_rfl) hc hz

theorem cas_run (a : Addr) (x y : Int) (w : World) (hc : w.cell? a = some (.int .u64 x)) (hz : w.frozen? a = false) : (callFunc 17 #[.pointer (some a), .int .u64 x, .int .u64 y]).run Yba.prog w = .ok (.value (.bool true)) (w.setCell a (.int .u64 y)) :=
  run_call_cas_hit Yba.func17 (by kernel_rfl) (by kernel_rfl) (by kernel_rfl) .u64 (by kernel_rfl) hc hz

/-! ### moveShare -/

theorem load_any (B : Nat) (x : Int) (w : World) (hc : w.cell? ⟨B, 0, none⟩ = some (.int .u64 x)) :
    Calls Yba.prog 10 #[.pointer (some ⟨B, 0, none⟩)] w fun e w' => e = .returned (.int .u64 x) ∧ w' = w := by
  have h1 := load_run ⟨B, 0, none⟩ x w hc
  go_enter Yba.func10, Yba.ntmps10
  go_wp2
  go_ret
  exact ⟨rfl, rfl⟩

theorem cas_any (B : Nat) (x y : Int) (w : World) (hc : w.cell? ⟨B, 0, none⟩ = some (.int .u64 x)) (hz : w.frozen? ⟨B, 0, none⟩ = false) :
    Calls Yba.prog 15 #[.pointer (some ⟨B, 0, none⟩), .int .u64 x, .int .u64 y] w fun e w' => e = .returned (.bool true) ∧ w' = w.setCell ⟨B, 0, none⟩ (.int .u64 y) := by
  have h1 := cas_run ⟨B, 0, none⟩ x y w hc hz
  go_enter Yba.func15, Yba.ntmps15
  go_wp2
  go_ret
  exact ⟨rfl, rfl⟩

/-- What moveShare leaves: the share's cell holds g; below it all is as it was. -/
structure Moved (B : Nat) (g : Int) (w w' : World) : Prop where
  below : Below B w w'
  size : w'.heap.size = w.heap.size
  cell : w'.cell? ⟨B, 0, none⟩ = some (.int .u64 g)

/-- 1 or 0, as the answer counts. -/
def one (c : Bool) : Nat := if c then 4607182418800017408 else 0

theorem af_size (op : BinOp) (x y : Nat) (w : World) : (af op x y w).heap.size = w.heap.size := by unfold af; split <;> rfl

theorem moved_same {B : Nat} {a : Int} {r : Nat} {w : World} {o1 o2 o3 : BinOp} {x1 x2 x3 y1 y2 y3 : Nat} (h : (r : Int) = a) (hc : w.cell? ⟨B, 0, none⟩ = some (.int .u64 a)) : Moved B r w (af o1 x1 y1 (af o2 x2 y2 (af o3 x3 y3 w))) :=
  ⟨af_below _ _ _ _ _ _ (af_below _ _ _ _ _ _ (af_below _ _ _ _ _ _ (Below.refl _ _))), by simp only [af_size], by rw [af_cell, af_cell, af_cell, h]; exact hc⟩

theorem moved_set {B : Nat} {a g : Int} {w : World} {o1 o2 o3 : BinOp} {x1 x2 x3 y1 y2 y3 : Nat} (hc : w.cell? ⟨B, 0, none⟩ = some (.int .u64 a)) : Moved B g w ((af o1 x1 y1 (af o2 x2 y2 (af o3 x3 y3 w))).setCell ⟨B, 0, none⟩ (.int .u64 g)) := by
  have hc' : (af o1 x1 y1 (af o2 x2 y2 (af o3 x3 y3 w))).cell? ⟨B, 0, none⟩ = some (.int .u64 a) := by rw [af_cell, af_cell, af_cell]; exact hc
  refine ⟨Below.setCell (p := ⟨B, 0, none⟩) (af_below _ _ _ _ _ _ (af_below _ _ _ _ _ _ (af_below _ _ _ _ _ _ (Below.refl _ _)))) (Nat.le_refl _) _, ?_, ?_⟩
  · have : ∀ (W : World) (p : Addr) (u : Value), (W.setCell p u).heap.size = W.heap.size := fun W p u => by simp [World.setCell]
    rw [this]; simp only [af_size]
  · exact World.cell?_setCell_same _ _ _ hc'

set_option maxHeartbeats 400000 in
theorem move_any (B : Nat) (c : Bool) (a : Int) (wt : Nat) (w : World) (hc : w.cell? ⟨B, 0, none⟩ = some (.int .u64 a)) (hz : w.frozen? ⟨B, 0, none⟩ = false) :
    Calls Yba.prog 9 #[.pointer (some ⟨B, 0, none⟩), .bool c, .float .f64 wt] w fun e w' => e = .returned (.tuple #[]) ∧ ∃ w1 w2 w3, Moved B ((ar .add a.toNat (ar .mul (ar .sub (one c) a.toNat w1) wt w2) w3 : Nat) : Int) w w' := by
  have q1 := fun x y w => run_ar .sub (.inl rfl) x y w
  have q2 := fun x y w => run_ar .mul (.inr (.inl rfl)) x y w
  have q3 := fun x y w => run_ar .add (.inr (.inr rfl)) x y w
  have qb := bits_run
  have qf := frombits_run
  have k1 := af_cell
  have k2 := af_frozen
  have o1 : one true = 4607182418800017408 := rfl
  have o0 : one false = 0 := rfl
  cases c
  all_goals
    first | rw [o1] | rw [o0]
    clear o1 o0
    go_enter Yba.func9, Yba.ntmps9
    go_wp2_with fail
    go_loopg [7] 0 (fun g b wx => wx = w)
    case atStart => rfl
    case round =>
      obtain rfl := hrel
      go_wp2_with (first
        | (go_at_call 10; refine (load_any B a _ hc).mono ?_; rintro e w' ⟨rfl, rfl⟩)
        | (go_at_call 15; refine (cas_any B a _ _ (by simpa [af_cell] using hc) (by simpa [af_frozen] using hz)).mono ?_; rintro e w1 ⟨rfl, rfl⟩))
      all_goals first | go_end0 | refine bodyPost_ret (results_none rfl _ _ _) rfl ?_
      · refine ⟨rfl, _, _, _, moved_same ‹_› hc⟩
      · refine ⟨rfl, _, _, _, moved_set hc⟩

theorem store_any (B : Nat) (x : Int) (u : Value) (w : World) (hc : w.cell? ⟨B, 0, none⟩ = some u) (hz : w.frozen? ⟨B, 0, none⟩ = false) :
    Calls Yba.prog 8 #[.pointer (some ⟨B, 0, none⟩), .int .u64 x] w fun e w' => e = .returned (.tuple #[]) ∧ w' = w.setCell ⟨B, 0, none⟩ (.int .u64 x) := by
  have h1 := store_run ⟨B, 0, none⟩ x u w hc hz
  go_enter Yba.func8, Yba.ntmps8
  go_wp2
  first | go_end0 | refine bodyPost_ret (results_none rfl _ _ _) rfl ?_
  exact ⟨rfl, rfl⟩

theorem isnan_any (b : Nat) (w : World) : Calls Yba.prog 12 #[.float .f64 b] w fun e w' => e = .returned (.bool (isn b)) ∧ w' = w := by
  have h1 := run_isn
  go_enter Yba.func12, Yba.ntmps12
  go_wp2
  go_ret
  exact ⟨rfl, rfl⟩

set_option maxHeartbeats 400000 in
theorem exact_any (a : Int) (c : Bool) (wt : Nat) (w : World) :
    Calls Yba.prog 4 #[.int .u64 a, .bool c, .float .f64 wt] w fun e w' => e = .returned (.bool true) ∧ Below w.heap.size w w' := by
  have qb := bits_run
  have qf := frombits_run
  have o1 : one true = 4607182418800017408 := rfl
  have o0 : one false = 0 := rfl
  go_enter Yba.func4, Yba.ntmps4
  go_wp2_with fail
  refine (store_any w.heap.size a (.int .u64 0) _ (by simp) (by simp)).mono ?_
  rintro e w' ⟨rfl, rfl⟩
  go_wp2_with fail
  refine (move_any w.heap.size c a wt _ (by simp) (by simp)).mono ?_
  rintro e w' ⟨rfl, v1, v2, v3, hM⟩
  have hc := hM.cell
  have hB : Below w.heap.size w w' := (((Below.refl _ _).alloc (Nat.le_refl _) _)).trans hM.below
  have q1 := fun x y w => run_ar .sub (.inl rfl) x y w
  have q2 := fun x y w => run_ar .mul (.inr (.inl rfl)) x y w
  have q3 := fun x y w => run_ar .add (.inr (.inr rfl)) x y w
  clear hM
  generalize hr : ar .add a.toNat (ar .mul (ar .sub (one c) a.toNat v1) wt v2) v3 = r at hc
  have Hr : Hid (ar .add a.toNat (ar .mul (ar .sub (one c) a.toNat v1) wt v2) v3 = r) := hr
  clear hr
  go_wp2_with fail
  refine (load_any w.heap.size r _ hc).mono ?_
  rintro e w1 ⟨rfl, rfl⟩
  cases c
  · rw [o0] at Hr
    clear o1 o0
    go_wp2_with fail
    refine (isnan_any _ _).mono ?_
    rintro e w2 ⟨rfl, rfl⟩
    have hT := two_ways 0 a.toNat wt v1 v2 v3 w1 (af .sub 0 a.toNat w1) (af .mul (ar .sub 0 a.toNat w1) wt (af .sub 0 a.toNat w1))
    rw [Hr.out] at hT
    have hBf := af_below .add a.toNat (ar .mul (ar .sub 0 a.toNat w1) wt (af .sub 0 a.toNat w1)) _ _ _ (af_below .mul (ar .sub 0 a.toNat w1) wt _ _ _ (af_below .sub 0 a.toNat _ _ _ hB))
    clear Hr hc hB
    rcases hT with ⟨hn, hn'⟩ | he
    · have i1 := isn_nan hn
      have i2 := isn_nan hn'
      clear hn hn'
      go_wp2_with (go_at_call 12; refine (isnan_any _ _).mono ?_; rintro e w2 ⟨rfl, rfl⟩)
      go_ret
      exact ⟨by simp, hBf⟩
    · subst he
      cases hi : isn (ar .add a.toNat (ar .mul (ar .sub 0 a.toNat w1) wt (af .sub 0 a.toNat w1)) (af .mul (ar .sub 0 a.toNat w1) wt (af .sub 0 a.toNat w1)))
      · go_wp2_with (go_at_call 12; refine (isnan_any _ _).mono ?_; rintro e w2 ⟨rfl, rfl⟩)
        go_ret
        exact ⟨by simp, hBf⟩
      · go_wp2_with (go_at_call 12; refine (isnan_any _ _).mono ?_; rintro e w2 ⟨rfl, rfl⟩)
        go_ret
        exact ⟨by simp, hBf⟩
  · rw [o1] at Hr
    clear o1 o0
    go_wp2_with fail
    refine (isnan_any _ _).mono ?_
    rintro e w2 ⟨rfl, rfl⟩
    have hT := two_ways 4607182418800017408 a.toNat wt v1 v2 v3 w1 (af .sub 4607182418800017408 a.toNat w1) (af .mul (ar .sub 4607182418800017408 a.toNat w1) wt (af .sub 4607182418800017408 a.toNat w1))
    rw [Hr.out] at hT
    have hBf := af_below .add a.toNat (ar .mul (ar .sub 4607182418800017408 a.toNat w1) wt (af .sub 4607182418800017408 a.toNat w1)) _ _ _ (af_below .mul (ar .sub 4607182418800017408 a.toNat w1) wt _ _ _ (af_below .sub 4607182418800017408 a.toNat _ _ _ hB))
    clear Hr hc hB
    rcases hT with ⟨hn, hn'⟩ | he
    · have i1 := isn_nan hn
      have i2 := isn_nan hn'
      clear hn hn'
      go_wp2_with (go_at_call 12; refine (isnan_any _ _).mono ?_; rintro e w2 ⟨rfl, rfl⟩)
      go_ret
      exact ⟨by simp, hBf⟩
    · subst he
      cases hi : isn (ar .add a.toNat (ar .mul (ar .sub 4607182418800017408 a.toNat w1) wt (af .sub 4607182418800017408 a.toNat w1)) (af .mul (ar .sub 4607182418800017408 a.toNat w1) wt (af .sub 4607182418800017408 a.toNat w1)))
      · go_wp2_with (go_at_call 12; refine (isnan_any _ _).mono ?_; rintro e w2 ⟨rfl, rfl⟩)
        go_ret
        exact ⟨by simp, hBf⟩
      · go_wp2_with (go_at_call 12; refine (isnan_any _ _).mono ?_; rintro e w2 ⟨rfl, rfl⟩)
        go_ret
        exact ⟨by simp, hBf⟩

end Go.Proofs.Ybulkcbpu.Walks
