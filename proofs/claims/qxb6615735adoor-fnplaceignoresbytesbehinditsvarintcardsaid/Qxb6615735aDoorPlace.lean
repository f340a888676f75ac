import Derived.Test.Qxb6615735aDoorDec
namespace Go.Proofs.Qxb6615735aDoor
open Go.RowKit
set_option linter.unusedSimpArgs false
set_option linter.unusedVariables false

/-- 'int(v)'. -/
def asI (v : Nat) : Int := wrap64 (v : Int)
/-- The error behind a place that was read. -/
def errIf (N : Int) (v : Nat) (E : Value) : Value := if N ≤ (v : Int) then E else .nilIface

set_option maxHeartbeats 1000000 in
theorem place15_err (w : World) (D : Nat) (s : Value) (N : Int) (t : TypeId) (x : Value) (h : DecAt w D s (.iface t x)) :
    Calls Tryd.prog 15 #[.pointer (some ⟨D, 0, none⟩), .int .i64 N] w fun e w' => e = .returned (.int .i64 0) ∧ w' = w := by
  have hd := h
  obtain ⟨c0, c1, f0, f1⟩ := h
  go_enter Tryd.func15, Tryd.ntmps15
  go_wp2_with (go_at_call 16; go_must (refine (uvarint16_err w D s t x hd).mono ?_))
  rintro e w1 ⟨rfl, rfl⟩
  clear hd
  go_wp2
  go_ret
  exact ⟨rfl, rfl⟩

set_option maxHeartbeats 1000000 in
theorem place15_short (w : World) (D : Nat) (N : Int) (a : Option Addr) (n c v : Nat) (k : Int) (Z : Nat → Nat) (t : TypeId) (x : Value) (hn : n ≤ 1048576) (hZ : ∀ i, Z i < 256) (hA : RowAt w a n Z) (hv : uv Z n = (v, k)) (hk : k ≤ 0)
    (hE : w.cell? ⟨0, 0, none⟩ = some (.iface t x)) (h : DecAt w D (.slice a n c) .nilIface) :
    Calls Tryd.prog 15 #[.pointer (some ⟨D, 0, none⟩), .int .i64 N] w fun e w' => e = .returned (.int .i64 0) ∧ w' = w.setCell ⟨D, 1, none⟩ (.iface t x) := by
  have hd := h
  obtain ⟨c0, c1, f0, f1⟩ := h
  go_enter Tryd.func15, Tryd.ntmps15
  go_wp2_with (go_at_call 16; go_must (refine (uvarint16_short w D a n c v k Z t x hn hZ hA hv hk hE hd).mono ?_))
  rintro e w1 ⟨rfl, rfl⟩
  have hc1 := (hd.set1 (.iface t x)).c1
  clear hd c0 c1 f0 f1
  go_wp2
  go_ret
  exact ⟨rfl, rfl⟩

theorem ret_int {a b : Int} (h : a = b) : Ending.returned (.int .i64 a) = .returned (.int .i64 b) := by rw [h]
theorem wrap64_small (x : Int) (h0 : 0 ≤ x) (h1 : x ≤ 9223372036854775807) : wrap64 x = x := by unfold wrap64; omega

set_option maxHeartbeats 1000000 in
theorem place15_good (w : World) (D : Nat) (N : Int) (a : Option Addr) (n c v k : Nat) (Z : Nat → Nat) (t : TypeId) (x : Value) (hn : n ≤ 1048576) (hnc : n ≤ c) (hZ : ∀ i, Z i < 256) (hA : RowAt w a n Z) (hv : uv Z n = (v, (k : Int))) (hk : 0 < k) (hkn : k ≤ n)
    (hN0 : 0 ≤ N) (hN1 : N ≤ 9223372036854775807) (hD : 0 < D) (hE : w.cell? ⟨0, 0, none⟩ = some (.iface t x)) (h : DecAt w D (.slice a n c) .nilIface) :
    Calls Tryd.prog 15 #[.pointer (some ⟨D, 0, none⟩), .int .i64 N] w fun e w' => e = .returned (.int .i64 (asI v)) ∧ Took D n c k a (errIf N v (.iface t x)) w w' := by
  have hvl : v < 18446744073709551616 := by have := uv_lt Z n; rw [hv] at this; exact this
  by_cases hb : N ≤ (v : Int)
  all_goals
    have hd := h
    go_enter Tryd.func15, Tryd.ntmps15
    go_wp2_with (go_at_call 16; go_must (refine (uvarint16_good w D a n c v k Z hn hnc hZ hA hv hk hkn hd).mono ?_))
    rintro e w1 ⟨rfl, hT⟩
    try intro hT
    obtain ⟨a', hd1, ho, hr1, hr2⟩ := hT
    have HH : Hid ((∀ W Z, RowAt W a n Z → RowAt W a' (n - k) (fun i => Z (k + i))) ∧ (∀ D : Nat, (∀ x, a = some x → x.block ≠ D) → ∀ x, a' = some x → x.block ≠ D)) := ⟨hr1, hr2⟩
    have hE1 : w1.cell? ⟨0, 0, none⟩ = some (.iface t x) := (World.cell?_of_block (w := w) (w' := w1) (a := ⟨0, 0, none⟩) (ho.block 0 (by omega))).trans hE
    have H1 : Hid (DecAt w1 D (.slice a' (n - k) (c - k)) .nilIface) := hd1
    obtain ⟨c0, c1, f0, f1⟩ := hd1
    clear hd h hr1 hr2 hv hA
    go_wp2
    go_ret
    first
      | (refine ⟨rfl, a', ?_, ?_, HH.out.1, HH.out.2⟩
         · rw [errIf, if_pos hb]; exact H1.out.set1 _
         · exact ho.set _ _)
      | (refine ⟨ret_int (by rw [asI, wrap64_small _ (by omega) (by omega)]), a', ?_, ho, HH.out.1, HH.out.2⟩
         rw [errIf, if_neg (by omega)]; exact H1.out)

/-! ### ZZplace, ZZnewDecoder, ZZdecoderRest, ZZdecoderErr -/
set_option maxHeartbeats 1000000 in
theorem place8_err (w : World) (D : Nat) (s : Value) (N : Int) (t : TypeId) (x : Value) (h : DecAt w D s (.iface t x)) :
    Calls Tryd.prog 8 #[.pointer (some ⟨D, 0, none⟩), .int .i64 N] w fun e w' => e = .returned (.int .i64 0) ∧ w' = w := by
  go_enter Tryd.func8, Tryd.ntmps8
  go_wp2_with (go_at_call 15; go_must (refine (place15_err w D s N t x h).mono ?_))
  rintro e w1 ⟨rfl, rfl⟩
  go_wp2
  go_ret
  exact ⟨rfl, rfl⟩

set_option maxHeartbeats 1000000 in
theorem place8_short (w : World) (D : Nat) (N : Int) (a : Option Addr) (n c v : Nat) (k : Int) (Z : Nat → Nat) (t : TypeId) (x : Value) (hn : n ≤ 1048576) (hZ : ∀ i, Z i < 256) (hA : RowAt w a n Z) (hv : uv Z n = (v, k)) (hk : k ≤ 0)
    (hE : w.cell? ⟨0, 0, none⟩ = some (.iface t x)) (h : DecAt w D (.slice a n c) .nilIface) :
    Calls Tryd.prog 8 #[.pointer (some ⟨D, 0, none⟩), .int .i64 N] w fun e w' => e = .returned (.int .i64 0) ∧ w' = w.setCell ⟨D, 1, none⟩ (.iface t x) := by
  go_enter Tryd.func8, Tryd.ntmps8
  go_wp2_with (go_at_call 15; go_must (refine (place15_short w D N a n c v k Z t x hn hZ hA hv hk hE h).mono ?_))
  rintro e w1 ⟨rfl, rfl⟩
  go_wp2
  go_ret
  exact ⟨rfl, rfl⟩

set_option maxHeartbeats 1000000 in
theorem place8_good (w : World) (D : Nat) (N : Int) (a : Option Addr) (n c v k : Nat) (Z : Nat → Nat) (t : TypeId) (x : Value) (hn : n ≤ 1048576) (hnc : n ≤ c) (hZ : ∀ i, Z i < 256) (hA : RowAt w a n Z) (hv : uv Z n = (v, (k : Int))) (hk : 0 < k) (hkn : k ≤ n)
    (hN0 : 0 ≤ N) (hN1 : N ≤ 9223372036854775807) (hD : 0 < D) (hE : w.cell? ⟨0, 0, none⟩ = some (.iface t x)) (h : DecAt w D (.slice a n c) .nilIface) :
    Calls Tryd.prog 8 #[.pointer (some ⟨D, 0, none⟩), .int .i64 N] w fun e w' => e = .returned (.int .i64 (asI v)) ∧ Took D n c k a (errIf N v (.iface t x)) w w' := by
  go_enter Tryd.func8, Tryd.ntmps8
  go_wp2_with (go_at_call 15; go_must (refine (place15_good w D N a n c v k Z t x hn hnc hZ hA hv hk hkn hN0 hN1 hD hE h).mono ?_))
  rintro e w1 ⟨rfl, hT⟩
  try intro hT
  clear hA hE h hv
  go_wp2
  go_ret
  exact ⟨rfl, hT⟩

set_option maxHeartbeats 1000000 in
theorem new7 (w : World) (a : Option Addr) (n c : Nat) :
    Calls Tryd.prog 7 #[.slice a n c] w fun e w' => e = .returned (.pointer (some ⟨w.heap.size, 0, none⟩)) ∧ w' = w.alloc (.cells #[.slice a n c, .nilIface] 39) := by
  go_enter Tryd.func7, Tryd.ntmps7
  go_wp2
  go_ret
  exact ⟨rfl, rfl⟩

set_option maxHeartbeats 1000000 in
theorem rest9 (w : World) (D : Nat) (a : Option Addr) (n c : Nat) (e : Value) (h : DecAt w D (.slice a n c) e) :
    Calls Tryd.prog 9 #[.pointer (some ⟨D, 0, none⟩)] w fun e w' => e = .returned (.slice a n c) ∧ w' = w := by
  obtain ⟨c0, c1, f0, f1⟩ := h
  go_enter Tryd.func9, Tryd.ntmps9
  go_wp2
  go_ret
  exact ⟨rfl, rfl⟩

set_option maxHeartbeats 1000000 in
theorem err10 (w : World) (D : Nat) (s v : Value) (h : DecAt w D s v) :
    Calls Tryd.prog 10 #[.pointer (some ⟨D, 0, none⟩)] w fun e w' => e = .returned v ∧ w' = w := by
  obtain ⟨c0, c1, f0, f1⟩ := h
  go_enter Tryd.func10, Tryd.ntmps10
  go_wp2
  go_ret
  exact ⟨rfl, rfl⟩

theorem dec_new (w : World) (s e : Value) : DecAt (w.alloc (.cells #[s, e] 39)) w.heap.size s e := by
  have hg : (w.alloc (.cells #[s, e] 39)).heap[w.heap.size]? = some (.cells #[s, e] 39 (0, 0)) := heap_alloc_new w _
  exact ⟨by rw [cell_of_row _ _ _ _ _ _ hg]; rfl, by rw [cell_of_row _ _ _ _ _ _ hg]; rfl, frozen_of_row _ _ _ _ _ hg, frozen_of_row _ _ _ _ _ hg⟩
end Go.Proofs.Qxb6615735aDoor
