import Derived.Test.Qxb6615735aPlain
namespace Go.Proofs.Qxb6615735a
open Go.RowKit

theorem stamp_range (first : Int) (S : Nat → Int) (h0 : 0 ≤ first) (h1 : first < 18446744073709551616) : ∀ k, 0 ≤ stampAt first S k ∧ stampAt first S k < 18446744073709551616
  | 0 => ⟨h0, h1⟩
  | k + 1 => by simp only [stampAt, IntKind.wrap_u64]; omega

theorem stamp_shift (first : Int) (S : Nat → Int) (c : Nat) : ∀ k, stampAt (stampAt first S c) (fun j => S (c + j)) k = stampAt first S (c + k)
  | 0 => rfl
  | k + 1 => by
    have := stamp_shift first S c k
    rw [← Nat.add_assoc, stampAt, stampAt, this]

theorem calls_cut (first : Int) (S : Nat → Int) (c : Nat) : ∀ k, callsTo first S (c + k) = callsTo first S c ++ (callsTo (stampAt first S c) (fun j => S (c + j)) k).map (fun p => (c + p.1, p.2))
  | 0 => by simp [callsTo]
  | k + 1 => by
    have ih := calls_cut first S c k
    rw [← Nat.add_assoc, callsTo, callsTo]
    by_cases h : 0 < S (c + k)
    · rw [if_pos h, if_pos h, ih]
    · rw [if_neg h, if_neg h, ih, stamp_shift]
      simp

theorem cut_len (first : Int) (S : Nat → Int) (c m : Nat) (h : c ≤ m) :
    (callsTo first S m).length = (callsTo first S c).length + (callsTo (stampAt first S c) (fun j => S (c + j)) (m - c)).length := by
  have := calls_cut first S c (m - c)
  rw [show c + (m - c) = m by omega] at this
  rw [this]
  simp

theorem cut_head (first : Int) (S : Nat → Int) (c m j : Nat) (h : c ≤ m) (hj : j < (callsTo first S c).length) :
    (callsTo first S m).getD j (0, 0) = (callsTo first S c).getD j (0, 0) := by
  obtain ⟨r, hr⟩ := calls_prefix first S c m h
  rw [hr]
  simp [List.getD, List.getElem?_append_left hj]

theorem cut_tail (first : Int) (S : Nat → Int) (c m j : Nat) (h : c ≤ m) (hj : j < (callsTo (stampAt first S c) (fun j => S (c + j)) (m - c)).length) :
    (callsTo first S m).getD ((callsTo first S c).length + j) (0, 0) =
      (c + ((callsTo (stampAt first S c) (fun j => S (c + j)) (m - c)).getD j (0, 0)).1, ((callsTo (stampAt first S c) (fun j => S (c + j)) (m - c)).getD j (0, 0)).2) := by
  have := calls_cut first S c (m - c)
  rw [show c + (m - c) = m by omega] at this
  rw [this]
  simp [List.getD, List.getElem?_append_right, List.getElem?_eq_getElem hj]

/-- A shift of the first stamp. -/
theorem stamp_later (first d : Int) (S : Nat → Int) (h0 : 0 ≤ first) (h1 : first < 18446744073709551616) : ∀ k, stampAt (IntKind.u64.wrap (first + d)) S k = IntKind.u64.wrap (stampAt first S k + d)
  | 0 => rfl
  | k + 1 => by
    have := stamp_later first d S h0 h1 k
    rw [stampAt, stampAt, this]
    simp only [IntKind.wrap_u64]
    omega

theorem calls_later (first d : Int) (S : Nat → Int) (h0 : 0 ≤ first) (h1 : first < 18446744073709551616) : ∀ k, callsTo (IntKind.u64.wrap (first + d)) S k = (callsTo first S k).map fun p => (p.1, IntKind.u64.wrap (p.2 + d))
  | 0 => rfl
  | k + 1 => by
    have ih := calls_later first d S h0 h1 k
    have hs := stamp_later first d S h0 h1 k
    rw [callsTo, callsTo]
    by_cases h : 0 < S k
    · rw [if_pos h, if_pos h, ih]
    · rw [if_neg h, if_neg h, ih, hs]
      simp

end Go.Proofs.Qxb6615735a
