/-
  Seat b3893aF: wiregen.ConsumeFieldValue and consumeGroup, where they pass.
-/
import Derived.Test.YbulkcbpgFmtByt
namespace Go.Proofs.YbulkcbpgFmt
open Go.RowKit Go.Deep
set_option linter.unusedVariables false

set_option maxHeartbeats 800000 in
theorem group_any (g : Nat) (v : Value) (rest : List Int) (d : Int) (w : World) (h : RdV w g v (vb 244 ++ rest)) (hd : 1 ≤ d) (hl : (vb 244 ++ rest).length ≤ 549755813888) :
    Calls Ybaf.prog 48 #[.int .i32 30, v, .int .i64 d] w fun e w' => e = .returned (.tuple #[.int .i64 2, .nilIface]) ∧ w' = w := by
  have hcall := ctag_any g v 244 rest w h (by omega) (by omega) (by omega) hl
  obtain ⟨a, c, off, rfl, hlc, ha, hcell⟩ := id h
  have h2 : (vb 244).length = 2 := by decide
  rw [h2] at hcall
  have hlen : (vb 244 ++ rest).length = 2 + rest.length := by rw [List.length_append, h2]
  have hc0 : ¬ c = 0 := by omega
  have hc1 : ¬ c - 0 = 0 := by omega
  obtain rfl := ha (by omega)
  clear ha hcell h
  have hn2 : 2 ≤ (vb 244 ++ rest).length := by omega
  clear hlen h2
  generalize (vb 244 ++ rest).length = n at *
  simp at hcall
  go_enter Ybaf.func48, Ybaf.ntmps48
  go_wp2_with fail
  go_loopg [8, 9, 10, 11, 12] 0 (fun gh k a1 a2 a3 a4 wr => wr = w ∧ k = .int .i64 0)
  case atStart => exact ⟨rfl, rfl⟩
  case round =>
    obtain ⟨rfl, rfl⟩ := hrel
    go_wp2_with fail
    refine hcall.mono ?_
    rintro e w1 ⟨rfl, rfl⟩
    go_wp2_with fail
    go_ret2
    exact ⟨rfl, rfl⟩

/-- What wiregen.ConsumeFieldValue passes over. -/
inductive Pay : Int → Int → Int → List Int → Prop
  | varint (num d x : Int) : 0 ≤ x → x < 18446744073709551616 → Pay num 0 d (vb x)
  | fix64 (num d x : Int) : Pay num 1 d (fx x 8)
  | bytes (num d : Int) (L : List Int) : Pay num 2 d (vb L.length ++ L)
  | group (d : Int) : 1 ≤ d → Pay 30 3 d (vb 244)
  | fix32 (num d x : Int) : Pay num 5 d (fx x 4)

set_option maxHeartbeats 800000 in
theorem field_any (g : Nat) (v : Value) (P rest : List Int) (num t d : Int) (w : World) (hp : Pay num t d P) (h : RdV w g v (P ++ rest)) (hl : (P ++ rest).length ≤ 549755813888) :
    Calls Ybaf.prog 33 #[.int .i32 num, .int .i8 t, v, .int .i64 d] w fun e w' => e = .returned (.tuple #[.int .i64 P.length, .nilIface]) ∧ w' = w := by
  cases hp
  case varint x h0 h1 =>
    have hcall := cvarint_any g v x rest w h h0 h1 (by omega)
    go_enter Ybaf.func33, Ybaf.ntmps33
    go_wp2_with fail
    refine hcall.mono ?_
    rintro e w1 ⟨rfl, rfl⟩
    go_wp2_with fail
    go_ret2
    exact ⟨rfl, rfl⟩
  case fix64 x =>
    obtain ⟨a, c, off, rfl, hlc, ha, hcell⟩ := id h
    have hlen : (fx x 8 ++ rest).length = 8 + rest.length := by rw [List.length_append, fx_len]
    have hn8 : 8 ≤ (fx x 8 ++ rest).length := by omega
    rw [fx_len]
    clear hlen hcell ha h
    generalize (fx x 8 ++ rest).length = n at *
    have hcall := cfixed_any a n c 8 w (by omega)
    go_enter Ybaf.func33, Ybaf.ntmps33
    go_wp2_with fail
    refine hcall.mono ?_
    rintro e w1 ⟨rfl, rfl⟩
    go_wp2_with fail
    go_ret2
    exact ⟨rfl, rfl⟩
  case fix32 x =>
    obtain ⟨a, c, off, rfl, hlc, ha, hcell⟩ := id h
    have hlen : (fx x 4 ++ rest).length = 4 + rest.length := by rw [List.length_append, fx_len]
    have hn8 : 4 ≤ (fx x 4 ++ rest).length := by omega
    rw [fx_len]
    clear hlen hcell ha h
    generalize (fx x 4 ++ rest).length = n at *
    have hcall := cfixed_any a n c 4 w (by omega)
    go_enter Ybaf.func33, Ybaf.ntmps33
    go_wp2_with fail
    refine hcall.mono ?_
    rintro e w1 ⟨rfl, rfl⟩
    go_wp2_with fail
    go_ret2
    exact ⟨rfl, rfl⟩
  case bytes L =>
    rw [List.append_assoc] at h hl
    have hcall := cbytes_any g v L rest w h hl
    rw [List.length_append]
    go_enter Ybaf.func33, Ybaf.ntmps33
    go_wp2_with fail
    refine hcall.mono ?_
    rintro e w1 ⟨u, rfl, rfl, hu⟩
    go_wp2_with fail
    go_ret2
    exact ⟨rfl, rfl⟩
  case group hd =>
    have hcall := group_any g v rest d w h hd hl
    have h2 : (vb 244).length = 2 := by decide
    rw [h2]
    clear h2
    go_enter Ybaf.func33, Ybaf.ntmps33
    go_wp2_with fail
    refine hcall.mono ?_
    rintro e w1 ⟨rfl, rfl⟩
    go_wp2_with fail
    go_ret2
    exact ⟨rfl, rfl⟩
end Go.Proofs.YbulkcbpgFmt
