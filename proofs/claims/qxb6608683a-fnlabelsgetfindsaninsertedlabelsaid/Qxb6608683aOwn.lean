import Derived.Test.Qxb6608683aGet2
import Derived.Laws.MakeOwn
namespace Go.Proofs.Qxb6608683a
open Go.RowKit
set_option linter.unusedVariables false

theorem slice_lab (x y : Value) (w : World) : (Instr.buildSlice 28 1 #[(0, .agg #[x, y])]).run Try.prog w = .ok (.slice (some ⟨w.heap.size, 0, none⟩) 1 1) (w.alloc (.cells #[x, y] 35)) := by kernel_rfl

/-- The cells of the first n labels. -/
def flat (K V : Nat → ByteArray) (n : Nat) : List Value := (List.range n).flatMap (labCells K V)

theorem flat_succ (K V : Nat → ByteArray) (n : Nat) : flat K V (n + 1) = flat K V n ++ labCells K V n := by
  simp [flat, List.range_succ, List.flatMap_append]

theorem flat_length (K V : Nat → ByteArray) : ∀ n, (flat K V n).length = n * 2
  | 0 => rfl
  | n + 1 => by rw [flat_succ, List.length_append, flat_length K V n]; simp [labCells]; omega

theorem flat_get (K V : Nat → ByteArray) : ∀ n i, i < n → (flat K V n)[i * 2]? = some (.string (K i)) ∧ (flat K V n)[i * 2 + 1]? = some (.string (V i))
  | 0, i, h => by omega
  | n + 1, i, h => by
    rw [flat_succ]
    by_cases e : i = n
    · subst e
      rw [List.getElem?_append_right (by rw [flat_length]; omega), List.getElem?_append_right (by rw [flat_length]; omega), flat_length, Nat.sub_self, show i * 2 + 1 - i * 2 = 1 by omega]
      exact ⟨rfl, rfl⟩
    · rw [List.getElem?_append_left (by rw [flat_length]; omega), List.getElem?_append_left (by rw [flat_length]; omega)]
      exact flat_get K V n i (by omega)

theorem flat_congr {K V K' V' : Nat → ByteArray} {n : Nat} (hK : ∀ i, i < n → K i = K' i) (hV : ∀ i, i < n → V i = V' i) : flat K V n = flat K' V' n := by
  induction n with
  | zero => rfl
  | succ n ih => rw [flat_succ, flat_succ, ih (fun i hi => hK i (by omega)) (fun i hi => hV i (by omega)), labCells, labCells, hK n (by omega), hV n (by omega)]

/-- The labels of a row that is owned. -/
theorem lab_of_own {w : World} {base n : Nat} {v : Value} {K V : Nat → ByteArray} (h : w.ownsRow base 35 2 v n (flat K V n)) : ∃ a c, v = .slice a n c ∧ LabAt w a n K V := by
  rcases h.2 with ⟨rfl, h0⟩ | ⟨g, cap, cur, rfl, hg, hh, _⟩
  · subst h0
    exact ⟨none, 0, rfl, fun h => absurd h (by omega)⟩
  · refine ⟨_, _, rfl, fun _ => ⟨g, 0, rfl, fun i hi => ?_⟩⟩
    obtain ⟨e1, e2⟩ := flat_get K V n i hi
    have c1 := h.cells (g := g) rfl (i * 2) _ e1
    have c2 := h.cells (g := g) rfl (i * 2 + 1) _ e2
    rw [Addr.add_mid] at c1 c2
    exact ⟨c1, by simpa [Nat.add_assoc] using c2⟩

/-- What an append to an owned row leaves alone. -/
theorem below_grown {w w' : World} {base e size n : Nat} {v : Value} {xs : List Value} (h : w.ownsRow base e size v n xs) (hg : w.grownBy w' v.ownBlock) (hb : base ≤ w.heap.size) : Below base w w' := by
  refine ⟨hg.os, hg.tape, hg.output, hg.size, fun k hk => hg.block k (by omega) fun e => ?_⟩
  rcases h.2 with ⟨rfl, _⟩ | ⟨g, cap, cur, rfl, hg, _⟩
  · simp [Value.ownBlock] at e
  · simp [Value.ownBlock] at e
    omega

theorem own_drew {w : World} {base e size n : Nat} {v : Value} {xs : List Value} (h : w.ownsRow base e size v n xs) : w.drew.ownsRow base e size v n xs := h
end Go.Proofs.Qxb6608683a
