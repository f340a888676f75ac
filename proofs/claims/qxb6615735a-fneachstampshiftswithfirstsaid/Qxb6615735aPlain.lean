import Derived.Test.Qxb6615735aStamp
import Derived.Test.Qxb6615735aEq
namespace Go.Proofs.Qxb6615735a
open Go.RowKit

/-- The skips of the first k items, mod 2^64. -/
def skipSum (S : Nat → Int) : Nat → Int
  | 0 => 0
  | k + 1 => IntKind.u64.wrap (skipSum S k + S k)

theorem stamp_closed (first : Int) (S : Nat → Int) (h0 : 0 ≤ first) (h1 : first < 18446744073709551616) (hS : ∀ i, 0 ≤ S i) :
    ∀ k, stampAt first S k = IntKind.u64.wrap (IntKind.u64.wrap (first + ((callsTo first S k).length : Int)) + skipSum S k) := by
  intro k
  simp only [IntKind.wrap_u64]
  induction k with
  | zero => simp [stampAt, callsTo, skipSum]; omega
  | succ k ih =>
    have := hS k
    simp only [stampAt, callsTo, skipSum, IntKind.wrap_u64]
    by_cases h : 0 < S k
    · rw [if_pos h, if_pos h, ih]; omega
    · rw [if_neg h, if_neg h, ih]
      simp only [List.length_append, List.length_singleton]
      omega

theorem calls_prefix (first : Int) (S : Nat → Int) (k : Nat) : ∀ m, k ≤ m → ∃ r, callsTo first S m = callsTo first S k ++ r := by
  intro m h
  induction m with
  | zero => obtain rfl : k = 0 := by omega
            exact ⟨[], by simp⟩
  | succ m ih =>
    by_cases hk : k = m + 1
    · subst hk; exact ⟨[], by simp⟩
    · obtain ⟨r, hr⟩ := ih (by omega)
      by_cases hs : 0 < S m
      · exact ⟨r, by simp only [callsTo, hs, if_true]; exact hr⟩
      · exact ⟨r ++ [(m, stampAt first S m)], by rw [callsTo, if_neg hs, hr]; simp⟩

theorem calls_at (first : Int) (S : Nat → Int) (k m : Nat) (hk : k < m) (hs : ¬ 0 < S k) :
    (callsTo first S k).length < (callsTo first S m).length ∧ (callsTo first S m).getD (callsTo first S k).length (0, 0) = (k, stampAt first S k) := by
  obtain ⟨r, hr⟩ := calls_prefix first S (k + 1) m hk
  have e : callsTo first S (k + 1) = callsTo first S k ++ [(k, stampAt first S k)] := by simp [callsTo, hs]
  rw [hr, e]
  constructor
  · simp
  · simp [List.getD]

end Go.Proofs.Qxb6615735a
