import Derived.Test.Qxb6613758aSmall
namespace Go.Proofs.Qxb6613758a
open Go.RowKit
set_option linter.unusedSimpArgs false
set_option linter.unusedVariables false

/-- The decimal 0e<e>. -/
def NewPost (e : Int) (w : World) (r : Ending) (w' : World) : Prop := ∃ q, r = .returned (.agg #[.pointer q, .int .i32 e]) ∧ Below w.heap.size w w'

theorem new14 (w : World) (x : Int) : Calls Try.prog 14 #[.int .i64 0, .int .i32 x] w fun e w' => NewPost x w e w' := by
  go_enter Try.func14, Try.ntmps14
  go_wp2_with fail
  refine (newInt15 _).mono ?_
  rintro e w1 ⟨q, rfl, hB⟩
  have hbk : w1.heap[w.heap.size]? = (w.alloc (Obj.cells #[Value.pointer none, Value.int IntKind.i32 0] 36)).heap[w.heap.size]? := hB.block w.heap.size (by simp)
  have c0 : w1.cell? ⟨w.heap.size, 0, none⟩ = some (.pointer none) := (World.cell?_of_block hbk).trans (by simp [World.cell?_alloc_past])
  have c1 : w1.cell? ⟨w.heap.size, 1, none⟩ = some (.int .i32 0) := (World.cell?_of_block hbk).trans (by simp [World.cell?_alloc_past])
  have f0 : w1.frozen? ⟨w.heap.size, 0, none⟩ = false := (World.frozen?_of_block hbk).trans (by simp)
  have f1 : w1.frozen? ⟨w.heap.size, 1, none⟩ = false := (World.frozen?_of_block hbk).trans (by simp)
  have hB1 : Below w.heap.size w w1 := ((Below.refl _ _).alloc (Nat.le_refl _) _).trans (hB.mono (by simp))
  clear hbk hB
  have d0 : ((w1.setCell ⟨w.heap.size, 0, none⟩ (.pointer q)).setCell ⟨w.heap.size, 1, none⟩ (.int .i32 x)).cell? ⟨w.heap.size, 0, none⟩ = some (.pointer q) :=
    (World.cell?_setCell_other _ _ _ _ (by simp)).trans (World.cell?_setCell_same _ _ _ c0)
  have d1 : ((w1.setCell ⟨w.heap.size, 0, none⟩ (.pointer q)).setCell ⟨w.heap.size, 1, none⟩ (.int .i32 x)).cell? ⟨w.heap.size, 1, none⟩ = some (.int .i32 x) :=
    World.cell?_setCell_same _ _ _ ((World.cell?_setCell_other _ _ _ _ (by simp)).trans c1)
  go_wp2
  refine bodyPost_ret (by simp [results, Try.results14, go_sem, d0, d1]; try rfl) rfl ?_
  exact ⟨q, rfl, (hB1.setCell (Nat.le_refl _) _).setCell (Nat.le_refl _) _⟩

/-- One tier of a schedule. -/
def TierPost (d e : Int) (w : World) (r : Ending) (w' : World) : Prop := ∃ q, r = .returned (.agg #[.int .i64 d, .pointer q, .int .i32 e]) ∧ Below w.heap.size w w'

theorem tier11 (w : World) (d x : Int) : Calls Try.prog 11 #[.int .i64 d, .int .i32 x] w fun e w' => TierPost d x w e w' := by
  go_enter Try.func11, Try.ntmps11
  go_wp2_with fail
  refine (new14 _ x).mono ?_
  rintro e w1 ⟨q, rfl, hB⟩
  have hbk : w1.heap[w.heap.size]? = (w.alloc (Obj.cells #[Value.int IntKind.i64 0, Value.pointer none, Value.int IntKind.i32 0] 38)).heap[w.heap.size]? := hB.block w.heap.size (by simp)
  have c0 : w1.cell? ⟨w.heap.size, 0, none⟩ = some (.int .i64 0) := (World.cell?_of_block hbk).trans (by simp [World.cell?_alloc_past])
  have c1 : w1.cell? ⟨w.heap.size, 1, none⟩ = some (.pointer none) := (World.cell?_of_block hbk).trans (by simp [World.cell?_alloc_past])
  have c2 : w1.cell? ⟨w.heap.size, 2, none⟩ = some (.int .i32 0) := (World.cell?_of_block hbk).trans (by simp [World.cell?_alloc_past])
  have f0 : w1.frozen? ⟨w.heap.size, 0, none⟩ = false := (World.frozen?_of_block hbk).trans (by simp)
  have f1 : w1.frozen? ⟨w.heap.size, 1, none⟩ = false := (World.frozen?_of_block hbk).trans (by simp)
  have f2 : w1.frozen? ⟨w.heap.size, 2, none⟩ = false := (World.frozen?_of_block hbk).trans (by simp)
  have hB1 : Below w.heap.size w w1 := ((Below.refl _ _).alloc (Nat.le_refl _) _).trans (hB.mono (by simp))
  clear hbk hB
  have d0 : (((w1.setCell ⟨w.heap.size, 0, none⟩ (.int .i64 d)).setCell ⟨w.heap.size, 1, none⟩ (.pointer q)).setCell ⟨w.heap.size, 2, none⟩ (.int .i32 x)).cell? ⟨w.heap.size, 0, none⟩ = some (.int .i64 d) :=
    (World.cell?_setCell_other _ _ _ _ (by simp)).trans ((World.cell?_setCell_other _ _ _ _ (by simp)).trans (World.cell?_setCell_same _ _ _ c0))
  have d1 : (((w1.setCell ⟨w.heap.size, 0, none⟩ (.int .i64 d)).setCell ⟨w.heap.size, 1, none⟩ (.pointer q)).setCell ⟨w.heap.size, 2, none⟩ (.int .i32 x)).cell? ⟨w.heap.size, 1, none⟩ = some (.pointer q) :=
    (World.cell?_setCell_other _ _ _ _ (by simp)).trans (World.cell?_setCell_same _ _ _ ((World.cell?_setCell_other _ _ _ _ (by simp)).trans c1))
  have d2 : (((w1.setCell ⟨w.heap.size, 0, none⟩ (.int .i64 d)).setCell ⟨w.heap.size, 1, none⟩ (.pointer q)).setCell ⟨w.heap.size, 2, none⟩ (.int .i32 x)).cell? ⟨w.heap.size, 2, none⟩ = some (.int .i32 x) :=
    World.cell?_setCell_same _ _ _ ((World.cell?_setCell_other _ _ _ _ (by simp)).trans ((World.cell?_setCell_other _ _ _ _ (by simp)).trans c2))
  go_wp2
  refine bodyPost_ret (by simp [results, Try.results11, go_sem, d0, d1, d2]; try rfl) rfl ?_
  exact ⟨q, rfl, ((hB1.setCell (Nat.le_refl _) _).setCell (Nat.le_refl _) _).setCell (Nat.le_refl _) _⟩

/-- The tag of a rate. -/
def ExpPost (e : Int) (w : World) (r : Ending) (w' : World) : Prop := r = .returned (.int .i32 e) ∧ Below w.heap.size w w'

theorem exp13 (w : World) (q : Option Addr) (x : Int) : Calls Try.prog 13 #[.agg #[.pointer q, .int .i32 x]] w fun e w' => ExpPost x w e w' := by
  go_enter Try.func13, Try.ntmps13
  go_wp2
  go_ret
  exact ⟨rfl, (Below.refl _ _).alloc (Nat.le_refl _) _⟩

/-- Whether a tier takes the days. -/
def TakesPost (d days : Int) (w : World) (r : Ending) (w' : World) : Prop := r = .returned (.bool (takeB d days)) ∧ Below w.heap.size w w'

theorem takes8 (w : World) (d x days : Int) : Calls Try.prog 8 #[.agg #[.int .i64 d, .int .i32 x], .int .i64 days] w fun e w' => TakesPost d days w e w' := by
  have hB : Below w.heap.size w (w.alloc (.cells #[.int .i64 d, .int .i32 x] 31)) := (Below.refl _ _).alloc (Nat.le_refl _) _
  go_enter Try.func8, Try.ntmps8
  by_cases h0 : d = 0
  · subst h0
    go_wp2
    go_ret
    refine ⟨?_, hB⟩
    simp [takeB]
  · have e0 : (d == 0) = false := by simp [h0]
    go_wp2
    go_ret
    refine ⟨?_, hB⟩
    simp [takeB, h0]

/-- It returned true, and nothing was made. -/
def YesPost (w : World) (r : Ending) (w' : World) : Prop := r = .returned (.bool true) ∧ w' = w

theorem in10 (w : World) (a : Option Addr) (n c i : Nat) (days : Int) (B : Nat → Int) (hA : IntsAt w a n B) (hn : n ≤ 65536) (hi : i < n) (h1 : i + 1 < n → days < B i) (h2 : 0 < i → B (i - 1) ≤ days) :
    Calls Try.prog 10 #[.slice a n c, .int .i64 i, .int .i64 days] w fun e w' => YesPost w e w' := by
  obtain ⟨b, off, rfl, hc⟩ := hA (by omega)
  have c1 := hc i hi
  have e0 : decide ((i : Int) < 0) = false := by simp
  have e1 : decide ((n : Int) ≤ (i : Int)) = false := by simp; omega
  by_cases hlt : i + 1 < n
  · have e2 : decide ((i : Int) < (n : Int) - 1) = true := by simp; omega
    have e3 : decide (B i ≤ days) = false := by have := h1 hlt; simp; omega
    by_cases hpos : 0 < i
    · obtain ⟨k, rfl⟩ : ∃ k, i = k + 1 := ⟨i - 1, by omega⟩
      have c2 := hc k (by omega)
      have h2' := h2 (by omega)
      rw [Nat.add_sub_cancel] at h2'
      have e4 : decide (days < B k) = false := by simp; omega
      clear hc h1 h2
      go_enter Try.func10, Try.ntmps10
      go_wp2
      all_goals
        go_ret
        exact ⟨rfl, rfl⟩
    · obtain rfl : i = 0 := by omega
      rw [Nat.add_zero] at c1
      clear hc h1 h2
      go_enter Try.func10, Try.ntmps10
      go_wp2
      go_ret
      exact ⟨rfl, rfl⟩
  · have e2 : decide ((i : Int) < (n : Int) - 1) = false := by simp; omega
    by_cases hpos : 0 < i
    · obtain ⟨k, rfl⟩ : ∃ k, i = k + 1 := ⟨i - 1, by omega⟩
      have c2 := hc k (by omega)
      have h2' := h2 (by omega)
      rw [Nat.add_sub_cancel] at h2'
      have e4 : decide (days < B k) = false := by simp; omega
      clear hc h1 h2
      go_enter Try.func10, Try.ntmps10
      go_wp2
      all_goals
        go_ret
        exact ⟨rfl, rfl⟩
    · obtain rfl : i = 0 := by omega
      rw [Nat.add_zero] at c1
      clear hc h1 h2
      go_enter Try.func10, Try.ntmps10
      go_wp2
      go_ret
      exact ⟨rfl, rfl⟩
end Go.Proofs.Qxb6613758a
