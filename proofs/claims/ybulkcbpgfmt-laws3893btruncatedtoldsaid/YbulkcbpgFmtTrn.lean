/-
  Seat b3893aF: the wire's readers where the bytes run out.
-/
import Derived.Test.YbulkcbpgFmtErf
import Derived.Test.YbulkcbpgFmtMrg0
namespace Go.Proofs.YbulkcbpgFmt
open Go.RowKit Go.Deep Go.Extern.Stop Go.Stop Go.Extern
set_option linter.unusedVariables false

/-- A *fmt.wrapError that wraps the sentinel at a. -/
def Wrapped (a : Addr) (w : World) (v : Value) : Prop := ∃ pb : Nat, v = .iface 111 (.pointer (some ⟨pb, 0, none⟩)) ∧ w.cell? ⟨pb, 1, none⟩ = some (.iface 112 (.pointer (some a)))

/-- ErrTruncated as it is laid; the tape that answers. -/
structure Sen (F : Interp) (a : Addr) (s : ByteArray) (w : World) : Prop where
  tape : F.answers w.tape
  var : w.cell? ⟨0, 0, none⟩ = some (.iface 112 (.pointer (some a)))
  text : w.cell? a = some (.string s)

theorem Sen.chg {F : Interp} {a : Addr} {s : ByteArray} {w w' : World} {G : Nat → Prop} (h : Sen F a s w) (hc : Chg G w w') (h0 : ¬ G 0) (ha : ¬ G a.block) : Sen F a s w' :=
  ⟨by rw [hc.tape]; exact h.tape, by rw [hc.cell (World.block_lt_of_cell? _ _ h.var) h0]; exact h.var, by rw [hc.cell (World.block_lt_of_cell? _ _ h.text) ha]; exact h.text⟩

theorem Sen.no {F : Interp} {a : Addr} {s : ByteArray} {w w' : World} (h : Sen F a s w) (hc : Chg No w w') : Sen F a s w' := h.chg hc (fun x => x) (fun x => x)

theorem three_new (w : World) (x y z : Value) (t : TypeId) : (w.alloc (.cells #[x, y, z] t)).cell? ⟨w.heap.size, 0, none⟩ = some x ∧ (w.alloc (.cells #[x, y, z] t)).cell? ⟨w.heap.size, 1, none⟩ = some y ∧ (w.alloc (.cells #[x, y, z] t)).cell? ⟨w.heap.size, 2, none⟩ = some z := by
  have h := World.news_of_block (cs := #[x, y, z]) (heap_alloc_new w (.cells #[x, y, z] t))
  exact ⟨h 0 x rfl, h 1 y rfl, h 2 z rfl⟩

theorem wrapped_new (w : World) (a : Addr) (t : ByteArray) (te : TypeId) (k : Nat) (hk : k = w.heap.size) : Wrapped a ((w.alloc (.cells #[.string t, .iface 112 (.pointer (some a))] te)).drew) (.iface 111 (.pointer (some ⟨k, 0, none⟩))) := by
  subst hk
  have h := World.news_of_block (cs := #[.string t, .iface 112 (.pointer (some a))]) (heap_alloc_new w (.cells #[.string t, .iface 112 (.pointer (some a))] te))
  exact ⟨_, rfl, h 1 _ rfl⟩

theorem Wrapped.chg {a : Addr} {w w' : World} {v : Value} (h : Wrapped a w v) (hc : Chg No w w') : Wrapped a w' v := by
  obtain ⟨pb, rfl, hp⟩ := h
  exact ⟨pb, rfl, by rw [hc.cell (World.block_lt_of_cell? _ _ hp) (fun x => x)]; exact hp⟩

set_option maxHeartbeats 800000 in
theorem cfixed_fails {F : Interp} {a : Addr} {s : ByteArray} {w : World} (h : Sen F a s w) (a0 : Option Addr) (n c : Nat) (z : Int) (hz : (n : Int) < z) :
    Calls Ybaf.prog 45 #[.slice a0 n c, .int .i64 z] w fun e w' => ∃ u, e = .returned (.tuple #[.int .i64 0, u]) ∧ Wrapped a w' u ∧ Chg No w w' := by
  have hv := h.var
  go_enter Ybaf.func45, Ybaf.ntmps45
  go_wp2_with fail
  have hc1 := (Chg.refl No w).alloc (.cells #[.iface 112 (.pointer (some a)), .iface 3 (.int .i64 z), .iface 3 (.int .i64 n)] 20)
  have h3 := three_new w (.iface 112 (.pointer (some a))) (.iface 3 (.int .i64 z)) (.iface 3 (.int .i64 n)) 20
  refine (errorf_A F w.heap.size a s z n _ (h.no hc1).tape h3.1 h3.2.1 h3.2.2 (h.no hc1).text).mono ?_
  rintro e w1 ⟨rfl, t, rfl⟩
  go_wp2
  go_ret2
  exact ⟨_, rfl, wrapped_new _ a t 141 _ (nblk_alloc _ _).symm, (hc1.alloc _).drew⟩

set_option maxHeartbeats 800000 in
theorem fixed64_fails {F : Interp} {a : Addr} {s : ByteArray} {w : World} (h : Sen F a s w) (a0 : Option Addr) (n c : Nat) (hz : n < 8) :
    Calls Ybaf.prog 19 #[.slice a0 n c] w fun e w' => ∃ u, e = .returned (.tuple #[.int .u64 0, .int .i64 0, u]) ∧ Wrapped a w' u ∧ Chg No w w' := by
  go_enter Ybaf.func19, Ybaf.ntmps19
  go_wp2_with fail
  refine (cfixed_fails h a0 n c 8 (by omega)).mono ?_
  rintro e w1 ⟨u, rfl, hu, hc⟩
  obtain ⟨pb, rfl, hp⟩ := hu
  go_wp2
  go_ret3
  exact ⟨_, rfl, ⟨pb, rfl, hp⟩, hc⟩

set_option maxHeartbeats 800000 in
theorem fixed32_fails {F : Interp} {a : Addr} {s : ByteArray} {w : World} (h : Sen F a s w) (a0 : Option Addr) (n c : Nat) (hz : n < 4) :
    Calls Ybaf.prog 23 #[.slice a0 n c] w fun e w' => ∃ u, e = .returned (.tuple #[.int .u32 0, .int .i64 0, u]) ∧ Wrapped a w' u ∧ Chg No w w' := by
  go_enter Ybaf.func23, Ybaf.ntmps23
  go_wp2_with fail
  refine (cfixed_fails h a0 n c 4 (by omega)).mono ?_
  rintro e w1 ⟨u, rfl, hu, hc⟩
  obtain ⟨pb, rfl, hp⟩ := hu
  go_wp2
  go_ret3
  exact ⟨_, rfl, ⟨pb, rfl, hp⟩, hc⟩

set_option maxHeartbeats 800000 in
theorem cbytes_fails_core {F : Interp} {a : Addr} {s : ByteArray} {w : World} (h : Sen F a s w) (a0 : Option Addr) (n c k m : Nat) (hkn : k ≤ n) (hm : n - k < m) (hm2 : m ≤ 549755813888) (hl : n ≤ 549755813888)
    (hcall : Calls Ybaf.prog 30 #[.slice a0 n c] w fun e w' => e = .returned (.tuple #[.int .u64 m, .int .i64 k, .nilIface]) ∧ w' = w) :
    Calls Ybaf.prog 21 #[.slice a0 n c] w fun e w' => ∃ u, e = .returned (.tuple #[.slice none 0 0, .int .i64 0, u]) ∧ Wrapped a w' u ∧ Chg No w w' := by
  have hv := h.var
  obtain ⟨d, hd⟩ : ∃ d : Nat, n = k + d := ⟨n - k, by omega⟩
  subst hd
  have hdm : d < m := by omega
  clear hm
  go_enter Ybaf.func21, Ybaf.ntmps21
  go_wp2_with fail
  refine hcall.mono ?_
  rintro e w1 ⟨rfl, rfl⟩
  clear hcall
  go_wp2_with fail
  have e : (k : Int) + d - k = (d : Int) := by omega
  rw [e]
  clear e
  have hc1 := (Chg.refl No w1).alloc (.cells #[.iface 112 (.pointer (some a)), .iface 34 (.int .u64 m), .iface 3 (.int .i64 d)] 20)
  have h3 := three_new w1 (.iface 112 (.pointer (some a))) (.iface 34 (.int .u64 m)) (.iface 3 (.int .i64 d)) 20
  refine (errorf_B F w1.heap.size a s m d _ (h.no hc1).tape h3.1 h3.2.1 h3.2.2 (h.no hc1).text).mono ?_
  rintro e w2 ⟨rfl, t, rfl⟩
  go_wp2
  go_ret3
  exact ⟨_, rfl, wrapped_new _ a t 141 _ (nblk_alloc _ _).symm, (hc1.alloc _).drew⟩

theorem cbytes_fails {F : Interp} {a : Addr} {s : ByteArray} {w : World} (h : Sen F a s w) (g : Nat) (v : Value) (m : Nat) (rest : List Int) (hr : RdV w g v (vb m ++ rest)) (hm : rest.length < m) (hm2 : m ≤ 549755813888) (hl : (vb m ++ rest).length ≤ 549755813888) :
    Calls Ybaf.prog 21 #[v] w fun e w' => ∃ u, e = .returned (.tuple #[.slice none 0 0, .int .i64 0, u]) ∧ Wrapped a w' u ∧ Chg No w w' := by
  have hlen : (vb m ++ rest).length = (vb m).length + rest.length := List.length_append
  have hcall := cvarint_any g v m rest w hr (by omega) (by omega) (by omega)
  obtain ⟨a0, c, rfl⟩ := hr.form
  exact cbytes_fails_core h a0 _ c (vb m).length m (by omega) (by omega) hm2 hl hcall

end Go.Proofs.YbulkcbpgFmt
