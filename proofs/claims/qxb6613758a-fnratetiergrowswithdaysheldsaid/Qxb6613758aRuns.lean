import Derived.Test.Qxb6613758aTier
import Derived.Test.Qxb6613758aHeld
import Derived.Laws.MakeOwn
namespace Go.Proofs.Qxb6613758a
open Go.RowKit
set_option linter.unusedVariables false
set_option linter.unusedSimpArgs false

theorem idx22 (w : World) (b off n c k : Nat) (hk : k < n) (hn : n ≤ 65536) : (Instr.indexAt 22 (.slice (some ⟨b, off, none⟩) n c) (.int .i64 k)).run Try.prog w = .ok (.pointer (some ⟨b, off + k * 2, none⟩)) w := by
  go_simp
theorem fld0 (w : World) (b o : Nat) : (Instr.fieldAt 31 (.pointer (some ⟨b, o, none⟩)) 0).run Try.prog w = .ok (.pointer (some ⟨b, o, none⟩)) w := by
  go_simp
theorem fld1 (w : World) (b o : Nat) : (Instr.fieldAt 31 (.pointer (some ⟨b, o, none⟩)) 1).run Try.prog w = .ok (.pointer (some ⟨b, o + 1, none⟩)) w := by
  go_simp
theorem load3 (w : World) (b o : Nat) (x : Int) (h : w.cell? ⟨b, o, none⟩ = some (.int .i64 x)) : (Instr.loadAt 3 (.pointer (some ⟨b, o, none⟩))).run Try.prog w = .ok (.int .i64 x) w := by
  go_simp
theorem load21 (w : World) (b o : Nat) (x : Int) (h : w.cell? ⟨b, o, none⟩ = some (.int .i32 x)) : (Instr.loadAt 21 (.pointer (some ⟨b, o, none⟩))).run Try.prog w = .ok (.int .i32 x) w := by
  go_simp
theorem slice38 (x y z : Value) (w : World) : (Instr.buildSlice 25 1 #[(0, .agg #[x, y, z])]).run Try.prog w = .ok (.slice (some ⟨w.heap.size, 0, none⟩) 1 1) (w.alloc (.cells #[x, y, z] 38)) := by kernel_rfl

theorem info38 : (Try.prog.info? 38).map (fun i => (i.zero, i.size, i.bytes)) = some (some (.agg #[.int .i64 0, .pointer none, .int .i32 0]), 3, 24) := by kernel_rfl

theorem make_row (w : World) (n : Nat) (hn : n ≤ 65536) : ∃ w', (Instr.makeSlice 25 (.int .i64 0) (.int .i64 (n : Int))).run Try.prog w = .ok (.slice (some ⟨w.heap.size, 0, none⟩) 0 n) w' ∧
    w'.ownsRow w.heap.size 38 3 (.slice (some ⟨w.heap.size, 0, none⟩) 0 n) 0 [] ∧ w.grownBy w' none := by
  obtain ⟨i, hi, hz0, hz1, hz2⟩ := info_parts info38
  exact run_make_own w w.heap.size 25 38 i _ 3 Try.underlying25 hi hz0 hz1 .i64 .i64 n (by rw [hz2]; omega) (by unfold maxLen; omega) (Nat.le_refl _)

/-- The cells of a schedule of k tiers. -/
def IsFlat (D E : Nat → Int) (k : Nat) (xs : List Value) : Prop :=
  ∀ i, i < k → xs[i * 3]? = some (.int .i64 (D i)) ∧ (∃ q, xs[i * 3 + 1]? = some (.pointer q)) ∧ xs[i * 3 + 2]? = some (.int .i32 (E i))

theorem IsFlat.snoc {D E : Nat → Int} {k : Nat} {xs : List Value} (h : IsFlat D E k xs) (hl : xs.length = k * 3) (q : Option Addr) : IsFlat D E (k + 1) (xs ++ [.int .i64 (D k), .pointer q, .int .i32 (E k)]) := fun i hi => by
  by_cases e : i = k
  · subst e
    rw [List.getElem?_append_right (by omega), List.getElem?_append_right (by omega), List.getElem?_append_right (by omega), hl, Nat.sub_self, show i * 3 + 1 - i * 3 = 1 by omega, show i * 3 + 2 - i * 3 = 2 by omega]
    exact ⟨rfl, ⟨q, rfl⟩, rfl⟩
  · rw [List.getElem?_append_left (by omega), List.getElem?_append_left (by omega), List.getElem?_append_left (by omega)]
    exact h i (by omega)

/-- The schedule of a row that is owned. -/
theorem sch_of_own {w : World} {base n : Nat} {v : Value} {D E : Nat → Int} {xs : List Value} (h : w.ownsRow base 38 3 v n xs) (hf : IsFlat D E n xs) : ∃ a c, v = .slice a n c ∧ SchAt w a n D E := by
  rcases h.2 with ⟨rfl, h0⟩ | ⟨g, cap, cur, rfl, hg, hh, _⟩
  · subst h0
    exact ⟨none, 0, rfl, fun h => absurd h (by omega)⟩
  · refine ⟨_, _, rfl, fun _ => ⟨g, 0, rfl, fun i hi => ?_⟩⟩
    obtain ⟨e1, ⟨q, e2⟩, e3⟩ := hf i hi
    have c1 := h.cells (g := g) rfl (i * 3) _ e1
    have c2 := h.cells (g := g) rfl (i * 3 + 1) _ e2
    have c3 := h.cells (g := g) rfl (i * 3 + 2) _ e3
    rw [Addr.add_mid] at c1 c2 c3
    exact ⟨c1, ⟨q, by simpa [Nat.add_assoc] using c2⟩, by simpa [Nat.add_assoc] using c3⟩

/-- What an append to an owned row leaves alone. -/
theorem below_grown {w w' : World} {base e size n : Nat} {v : Value} {xs : List Value} (h : w.ownsRow base e size v n xs) (hg : w.grownBy w' v.ownBlock) (hb : base ≤ w.heap.size) : Below base w w' := by
  refine ⟨hg.os, hg.tape, hg.output, hg.size, fun k hk => hg.block k (by omega) fun e => ?_⟩
  rcases h.2 with ⟨rfl, _⟩ | ⟨g, cap, cur, rfl, hg, _⟩
  · simp [Value.ownBlock] at e
  · simp [Value.ownBlock] at e
    omega

theorem own_drew {w : World} {base e size n : Nat} {v : Value} {xs : List Value} (h : w.ownsRow base e size v n xs) : w.drew.ownsRow base e size v n xs := h

/-- Tiers of memory that is there are as they were. -/
theorem tier_below {w w' : World} (h : Below w.heap.size w w') {a : Option Addr} {n : Nat} {D E : Nat → Int} (hA : TierAt w a n D E) : TierAt w' a n D E := fun hn => by
  obtain ⟨b, off, ha, hc⟩ := hA hn
  have hb := World.block_lt_of_cell? w _ (hc 0 hn).1
  exact ⟨b, off, ha, fun i hi => ⟨(h.cell (p := ⟨b, off + i * 2, none⟩) hb).trans (hc i hi).1, (h.cell (p := ⟨b, off + i * 2 + 1, none⟩) hb).trans (hc i hi).2⟩⟩

theorem ints_below {w w' : World} (h : Below w.heap.size w w') {a : Option Addr} {n : Nat} {B : Nat → Int} (hA : IntsAt w a n B) : IntsAt w' a n B := fun hn => by
  obtain ⟨b, off, ha, hc⟩ := hA hn
  have hb := World.block_lt_of_cell? w _ (hc 0 hn)
  exact ⟨b, off, ha, fun i hi => (h.cell (p := ⟨b, off + i, none⟩) hb).trans (hc i hi)⟩

theorem sch_below {w w' : World} (h : Below w.heap.size w w') {a : Option Addr} {n : Nat} {D E : Nat → Int} (hA : SchAt w a n D E) : SchAt w' a n D E := fun hn => by
  obtain ⟨b, off, ha, hc⟩ := hA hn
  have hb := World.block_lt_of_cell? w _ (hc 0 hn).1
  refine ⟨b, off, ha, fun i hi => ?_⟩
  obtain ⟨h1, ⟨q, h2⟩, h3⟩ := hc i hi
  exact ⟨(h.cell (p := ⟨b, off + i * 3, none⟩) hb).trans h1, ⟨q, (h.cell (p := ⟨b, off + i * 3 + 1, none⟩) hb).trans h2⟩, (h.cell (p := ⟨b, off + i * 3 + 2, none⟩) hb).trans h3⟩
end Go.Proofs.Qxb6613758a
