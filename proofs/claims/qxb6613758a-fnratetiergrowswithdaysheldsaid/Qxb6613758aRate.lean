import Derived.Test.Qxb6613758aSched
namespace Go.Proofs.Qxb6613758a
open Go.RowKit
set_option linter.unusedSimpArgs false
set_option linter.unusedVariables false

/-- The schedule's answer: a rate and ok. -/
def RatePost (D E : Nat → Int) (n : Nat) (days : Int) (w : World) (e : Ending) (w' : World) : Prop :=
  ∃ q x ok, e = .returned (.tuple #[.agg #[.pointer q, .int .i32 x], .bool ok]) ∧ IsRate D E n days x ok ∧ Below w.heap.size w w'

/-- Two cells that were written last. -/
theorem back2 {W : World} {g : Nat} {x0 x1 : Value} (v0 v1 : Value) (c0 : W.cell? ⟨g, 0, none⟩ = some x0) (c1 : W.cell? ⟨g, 1, none⟩ = some x1) :
    ((W.setCell ⟨g, 0, none⟩ v0).setCell ⟨g, 1, none⟩ v1).cell? ⟨g, 0, none⟩ = some v0 ∧ ((W.setCell ⟨g, 0, none⟩ v0).setCell ⟨g, 1, none⟩ v1).cell? ⟨g, 1, none⟩ = some v1 :=
  ⟨(World.cell?_setCell_other _ _ _ _ (by simp)).trans (World.cell?_setCell_same _ _ _ c0), World.cell?_setCell_same _ _ _ ((World.cell?_setCell_other _ _ _ _ (by simp)).trans c1)⟩

set_option maxHeartbeats 1000000 in
theorem rate12 (w : World) (a : Option Addr) (n c : Nat) (days : Int) (D E : Nat → Int) (hn : n ≤ 65536) (hA : SchAt w a n D E) :
    Calls Try.prog 12 #[.slice a n c, .int .i64 days] w fun e w' => RatePost D E n days w e w' := by
  go_enter Try.func12, Try.ntmps12
  go_wp2_with fail
  go_loopw [10] (fun i wr => ∃ k : Nat, k ≤ n ∧ i = .int .i64 k ∧ (∀ j, j < k → ¬ Take (D j) days) ∧ wr.cell? ⟨w.heap.size, 0, none⟩ = some (.pointer none) ∧ wr.cell? ⟨w.heap.size, 1, none⟩ = some (.int .i32 0) ∧
      wr.frozen? ⟨w.heap.size, 0, none⟩ = false ∧ wr.frozen? ⟨w.heap.size, 1, none⟩ = false ∧ Below w.heap.size w wr ∧ w.heap.size < wr.heap.size) (fun i _ => n - (intOf i).toNat)
  case atStart =>
    refine ⟨0, by omega, rfl, fun j hj => by omega, by simp [World.cell?_alloc_past], by simp [World.cell?_alloc_past], by simp, by simp, (Below.refl _ _).alloc (Nat.le_refl _) _, by simp⟩
  case round =>
    obtain ⟨k, hkn, rfl, hno, d0, d1, f0, f1, hB, hsz⟩ := hrel
    have HN : Hid (∀ j, j < k → ¬ Take (D j) days) := hno
    clear hno
    by_cases hlt : k < n
    · obtain ⟨b, off, hab, hc⟩ := sch_below hB hA (by omega)
      subst hab
      obtain ⟨c1, ⟨q, c2⟩, c3⟩ := hc k hlt
      clear hc
      have hbl : b < wr.heap.size := World.block_lt_of_cell? wr _ c1
      obtain ⟨a0, a1⟩ := back2 (.pointer q) (.int .i32 (E k)) d0 d1
      have hsz2 : w.heap.size < ((wr.setCell ⟨w.heap.size, 0, none⟩ (.pointer q)).setCell ⟨w.heap.size, 1, none⟩ (.int .i32 (E k))).heap.size := by simpa [World.setCell] using hsz
      have r0 := (World.cell?_alloc_lt _ (Obj.cells #[Value.int IntKind.i64 (D k), Value.pointer q, Value.int IntKind.i32 (E k)] 38) ⟨w.heap.size, 0, none⟩ hsz2).trans a0
      have r1 := (World.cell?_alloc_lt _ (Obj.cells #[Value.int IntKind.i64 (D k), Value.pointer q, Value.int IntKind.i32 (E k)] 38) ⟨w.heap.size, 1, none⟩ hsz2).trans a1
      have hBn := ((hB.setCell (p := ⟨w.heap.size, 0, none⟩) (Nat.le_refl _) (.pointer q)).setCell (p := ⟨w.heap.size, 1, none⟩) (Nat.le_refl _) (.int .i32 (E k))).alloc (Nat.le_of_lt hsz2) (.cells #[.int .i64 (D k), .pointer q, .int .i32 (E k)] 38)
      clear a0 a1 hsz2
      by_cases ht : Take (D k) days
      · by_cases h0 : D k = 0
        · have e0 : (D k == 0) = true := by simp [h0]
          clear h0
          go_wp2
          refine bodyPost_ret (by simp [results, Try.results12, go_sem, r0, r1]; try rfl) rfl ?_
          exact ⟨q, E k, true, rfl, .inl ⟨rfl, k, hlt, ht, HN.out, rfl⟩, hBn⟩
        · have e0 : (D k == 0) = false := by simp [h0]
          have e1 : decide (days < D k) = true := by unfold Take at ht; simp; omega
          go_wp2
          refine bodyPost_ret (by simp [results, Try.results12, go_sem, r0, r1]; try rfl) rfl ?_
          exact ⟨q, E k, true, rfl, .inl ⟨rfl, k, hlt, ht, HN.out, rfl⟩, hBn⟩
      · have e0 : (D k == 0) = false := by unfold Take at ht; simp; omega
        have e1 : decide (days < D k) = false := by unfold Take at ht; simp; omega
        go_wp2
        go_roundw
        case rel =>
          refine ⟨k + 1, by omega, by go_num, fun j hj => ?_, ?_, ?_, ?_, ?_, hB.alloc (by omega) _, by simp; omega⟩
          · by_cases e : j = k
            · subst e; exact ht
            · exact HN.out j (by omega)
          · rw [World.cell?_alloc_lt _ _ _ (show _ < _ from hsz)]; exact d0
          · rw [World.cell?_alloc_lt _ _ _ (show _ < _ from hsz)]; exact d1
          · rw [World.frozen?_alloc_past _ _ _ (show _ < _ from hsz)]; exact f0
          · rw [World.frozen?_alloc_past _ _ _ (show _ < _ from hsz)]; exact f1
        case measure => simp [intOf]; omega
    · obtain rfl : k = n := by omega
      obtain ⟨r0, r1⟩ := back2 (.pointer none) (.int .i32 0) d0 d1
      go_wp2
      refine bodyPost_ret (by simp [results, Try.results12, go_sem, r0, r1]; try rfl) rfl ?_
      exact ⟨none, 0, false, rfl, .inr ⟨rfl, rfl, HN.out⟩, (hB.setCell (Nat.le_refl _) _).setCell (Nat.le_refl _) _⟩

/-- The tag of the schedule's answer, and ok. -/
def TagPost (D E : Nat → Int) (n : Nat) (days : Int) (w : World) (e : Ending) (w' : World) : Prop :=
  ∃ x ok, e = .returned (.tuple #[.int .i32 x, .bool ok]) ∧ IsRate D E n days x ok ∧ Below w.heap.size w w'

set_option maxHeartbeats 1000000 in
theorem tag7 (w : World) (a : Option Addr) (n c : Nat) (days : Int) (D E : Nat → Int) (hn : n ≤ 65536) (hA : SchAt w a n D E) :
    Calls Try.prog 7 #[.slice a n c, .int .i64 days] w fun e w' => TagPost D E n days w e w' := by
  go_enter Try.func7, Try.ntmps7
  go_wp2_with fail
  refine (rate12 w a n c days D E hn hA).mono ?_
  rintro e w1 ⟨q, x, ok, rfl, hr, hB⟩
  go_wp2_with fail
  refine (exp13 _ q x).mono ?_
  rintro e w2 ⟨rfl, hB2⟩
  have hB3 := (hB.alloc hB.size _).trans (hB2.mono (by have := hB.size; simp; omega))
  go_wp2
  go_ret2
  exact ⟨x, ok, rfl, hr, hB3⟩
end Go.Proofs.Qxb6613758a
