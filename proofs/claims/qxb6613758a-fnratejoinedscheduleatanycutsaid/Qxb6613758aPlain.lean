import Derived.WalkKit
namespace Go.Proofs.Qxb6613758a

/-- A tier with this bound takes a holding of these days. -/
def Take (b days : Int) : Prop := b = 0 ∨ days < b

def takeB (b days : Int) : Bool := decide (b = 0 ∨ days < b)

theorem takeB_true {b days : Int} (h : Take b days) : takeB b days = true := by simpa [takeB, Take] using h
theorem takeB_false {b days : Int} (h : ¬ Take b days) : takeB b days = false := by simpa [takeB, Take] using h

/-- e, ok is what the schedule answers: the tag of the first of the n tiers that takes the days. -/
def IsRate (D E : Nat → Int) (n : Nat) (days e : Int) (ok : Bool) : Prop :=
  (ok = true ∧ ∃ i, i < n ∧ Take (D i) days ∧ (∀ j, j < i → ¬ Take (D j) days) ∧ e = E i) ∨ (ok = false ∧ e = 0 ∧ ∀ i, i < n → ¬ Take (D i) days)

theorem rate_front {D E : Nat → Int} {n k : Nat} {days e e1 : Int} {ok : Bool} (hk : k ≤ n) (h : IsRate D E n days e ok) (h1 : IsRate D E k days e1 true) : ok = true ∧ e = e1 := by
  obtain ⟨_, i, hi, ht, hall, rfl⟩ : true = true ∧ ∃ i, i < k ∧ Take (D i) days ∧ (∀ j, j < i → ¬ Take (D j) days) ∧ e1 = E i := by
    rcases h1 with h1 | ⟨h1, _⟩
    · exact h1
    · cases h1
  rcases h with ⟨rfl, j, hj, ht', hall', rfl⟩ | ⟨rfl, rfl, hno⟩
  · refine ⟨rfl, ?_⟩
    rcases Nat.lt_trichotomy i j with hl | rfl | hl
    · exact absurd ht (hall' i hl)
    · rfl
    · exact absurd ht' (hall j hl)
  · exact absurd ht (hno i (by omega))

theorem rate_back {D E : Nat → Int} {n k : Nat} {days e e1 e2 : Int} {ok ok2 : Bool} (hk : k ≤ n) (h : IsRate D E n days e ok) (h1 : IsRate D E k days e1 false)
    (h2 : IsRate (fun i => D (k + i)) (fun i => E (k + i)) (n - k) days e2 ok2) : ok = ok2 ∧ e = e2 := by
  have hno : ∀ i, i < k → ¬ Take (D i) days := by
    rcases h1 with ⟨h1, _⟩ | ⟨_, _, h1⟩
    · cases h1
    · exact h1
  rcases h with ⟨rfl, i, hi, ht, hall, rfl⟩ | ⟨rfl, rfl, hn⟩ <;> rcases h2 with ⟨rfl, j, hj, ht', hall', rfl⟩ | ⟨rfl, rfl, hn'⟩
  · refine ⟨rfl, ?_⟩
    have hik : k ≤ i := by
      rcases Nat.lt_or_ge i k with hl | hl
      · exact absurd ht (hno i hl)
      · exact hl
    obtain ⟨m, rfl⟩ : ∃ m, i = k + m := ⟨i - k, by omega⟩
    rcases Nat.lt_trichotomy m j with hl | rfl | hl
    · exact absurd ht (hall' m hl)
    · rfl
    · exact absurd ht' (hall (k + j) (by omega))
  · have hik : k ≤ i := by
      rcases Nat.lt_or_ge i k with hl | hl
      · exact absurd ht (hno i hl)
      · exact hl
    obtain ⟨m, rfl⟩ : ∃ m, i = k + m := ⟨i - k, by omega⟩
    exact absurd ht (hn' m (by omega))
  · exact absurd ht' (hn (k + j) (by omega))
  · exact ⟨rfl, rfl⟩

/-- What the law's own loop finds. -/
theorem rate_some {D E : Nat → Int} {n : Nat} {days e : Int} {ok s m : Bool} (h : IsRate D E n days e ok) (hs : s = true ↔ ∃ i, i < n ∧ Take (D i) days) (hm : m = true ↔ ∃ i, i < n ∧ Take (D i) days ∧ E i = e) :
    ok = s ∧ (ok = true → m = true) ∧ (ok = false → e = 0) := by
  rcases h with ⟨rfl, i, hi, ht, _, rfl⟩ | ⟨rfl, rfl, hno⟩
  · exact ⟨(hs.2 ⟨i, hi, ht⟩).symm, fun _ => hm.2 ⟨i, hi, ht, rfl⟩, fun h => by cases h⟩
  · refine ⟨?_, fun h => (by cases h), fun _ => rfl⟩
    cases s
    · rfl
    · obtain ⟨i, hi, ht⟩ := hs.1 rfl
      exact absurd ht (hno i hi)

/-- The tier of a well-formed schedule. -/
theorem rate_tier {B : Nat → Int} {n : Nat} {days e : Int} {ok : Bool} (hn : 0 < n) (hlast : B (n - 1) = 0) (hne : ∀ i, i + 1 < n → B i ≠ 0) (h : IsRate B (fun i => (i : Int)) n days e ok) :
    ok = true ∧ ∃ i : Nat, e = i ∧ i < n ∧ (i + 1 < n → days < B i) ∧ (0 < i → B (i - 1) ≤ days) ∧ (∀ j, j < i → ¬ Take (B j) days) ∧ Take (B i) days := by
  rcases h with ⟨rfl, i, hi, ht, hall, rfl⟩ | ⟨rfl, rfl, hno⟩
  · refine ⟨rfl, i, rfl, hi, fun h => ?_, fun h => ?_, hall, ht⟩
    · rcases ht with h0 | h0
      · exact absurd h0 (hne i h)
      · exact h0
    · have := hall (i - 1) (by omega)
      unfold Take at this
      omega
  · exact absurd (.inl hlast) (hno (n - 1) (by omega))

theorem tier_grows {B : Nat → Int} {i j : Nat} {d1 d2 : Int} (hd : d1 ≤ d2) (h1 : ∀ k, k < i → ¬ Take (B k) d1) (h2 : Take (B j) d2) : i ≤ j := by
  rcases Nat.lt_or_ge j i with hl | hl
  · have := h1 j hl
    unfold Take at this h2
    omega
  · exact hl
end Go.Proofs.Qxb6613758a
