import Derived.Laws.BitsAllLaws
namespace Go.Proofs.Qxb6615735aDoor

/-- The low seven bits of the first k bytes, the first the least. -/
def psum (Z : Nat → Nat) : Nat → Nat
  | 0 => 0
  | k + 1 => psum Z k + (Z k % 128) * 128 ^ k

theorem psum_lt (Z : Nat → Nat) : ∀ k, psum Z k < 128 ^ k
  | 0 => by simp [psum]
  | k + 1 => by
    have ih := psum_lt Z k
    have h : Z k % 128 ≤ 127 := by omega
    have h2 : (Z k % 128) * 128 ^ k ≤ 127 * 128 ^ k := Nat.mul_le_mul_right _ h
    rw [psum, Nat.pow_succ]
    omega

/-- The first of the first k bytes that is below 128. -/
def lowAt (Z : Nat → Nat) : Nat → Option Nat
  | 0 => none
  | k + 1 => match lowAt Z k with
    | some e => some e
    | none => if Z k < 128 then some k else none

theorem lowAt_none {Z : Nat → Nat} : ∀ {k}, (∀ j, j < k → 128 ≤ Z j) → lowAt Z k = none
  | 0, _ => rfl
  | k + 1, h => by
    have ih := lowAt_none (Z := Z) (k := k) (fun j hj => h j (by omega))
    have := h k (by omega)
    simp only [lowAt, ih]
    rw [if_neg (by omega)]

theorem lowAt_some {Z : Nat → Nat} {e : Nat} : ∀ {k}, e < k → (∀ j, j < e → 128 ≤ Z j) → Z e < 128 → lowAt Z k = some e
  | 0, h, _, _ => by omega
  | k + 1, hk, h, he => by
    by_cases hek : e = k
    · subst hek
      simp only [lowAt, lowAt_none h, if_pos he]
    · simp only [lowAt, lowAt_some (k := k) (by omega) h he]

theorem lowAt_cases (Z : Nat → Nat) : ∀ k, (lowAt Z k = none ∧ ∀ j, j < k → 128 ≤ Z j) ∨ ∃ e, lowAt Z k = some e ∧ e < k ∧ (∀ j, j < e → 128 ≤ Z j) ∧ Z e < 128
  | 0 => .inl ⟨rfl, fun j hj => by omega⟩
  | k + 1 => by
    rcases lowAt_cases Z k with ⟨h, hall⟩ | ⟨e, h, h1, h2, h3⟩
    · by_cases hk : Z k < 128
      · exact .inr ⟨k, by simp only [lowAt, h, if_pos hk], by omega, hall, hk⟩
      · refine .inl ⟨by simp only [lowAt, h, if_neg hk], fun j hj => ?_⟩
        by_cases e : j = k
        · subst e; omega
        · exact hall j (by omega)
    · exact .inr ⟨e, by simp only [lowAt, h], by omega, h2, h3⟩

/-- What Uvarint gives: the value, and how many bytes it took. -/
def uv (Z : Nat → Nat) (n : Nat) : Nat × Int :=
  match lowAt Z (min n 10) with
  | none => (0, if 10 < n then -11 else 0)
  | some e => if e = 9 ∧ 1 < Z 9 then (0, -10) else (psum Z e + Z e * 128 ^ e, (e : Int) + 1)

theorem uv_over {Z : Nat → Nat} {n : Nat} (hn : 10 < n) (h : ∀ j, j < 10 → 128 ≤ Z j) : uv Z n = (0, -11) := by
  unfold uv
  rw [show min n 10 = 10 by omega, lowAt_none h]
  simp [hn]
theorem uv_short {Z : Nat → Nat} {n : Nat} (hn : n ≤ 10) (h : ∀ j, j < n → 128 ≤ Z j) : uv Z n = (0, 0) := by
  unfold uv
  rw [show min n 10 = n by omega, lowAt_none h]
  simp
  omega
theorem uv_wide {Z : Nat → Nat} {n : Nat} (hn : 9 < n) (h : ∀ j, j < 9 → 128 ≤ Z j) (h9 : Z 9 < 128) (h1 : 1 < Z 9) : uv Z n = (0, -10) := by
  unfold uv
  rw [lowAt_some (e := 9) (by omega) h h9]
  simp [h1]
theorem uv_good {Z : Nat → Nat} {n e : Nat} (he : e < n) (he9 : e ≤ 9) (h : ∀ j, j < e → 128 ≤ Z j) (hz : Z e < 128) (h1 : ¬ (e = 9 ∧ 1 < Z 9)) : uv Z n = (psum Z e + Z e * 128 ^ e, (e : Int) + 1) := by
  unfold uv
  rw [lowAt_some (e := e) (by omega) h hz]
  simp only [if_neg h1]

/-- The four ways. -/
theorem uv_cases (Z : Nat → Nat) (n : Nat) : ((uv Z n).2 ≤ 0 ∧ (uv Z n).1 = 0) ∨
    ∃ e, e < n ∧ e ≤ 9 ∧ (∀ j, j < e → 128 ≤ Z j) ∧ Z e < 128 ∧ ¬ (e = 9 ∧ 1 < Z 9) ∧ uv Z n = (psum Z e + Z e * 128 ^ e, (e : Int) + 1) := by
  rcases lowAt_cases Z (min n 10) with ⟨h, hall⟩ | ⟨e, h, h1, h2, h3⟩
  · left
    unfold uv
    rw [h]
    by_cases hn : 10 < n <;> simp [hn]
  · by_cases h9 : e = 9 ∧ 1 < Z 9
    · left
      unfold uv
      rw [h]
      simp [h9]
    · right
      refine ⟨e, by omega, by omega, h2, h3, h9, ?_⟩
      unfold uv
      rw [h]
      simp only [if_neg h9]

theorem top_lt (Z : Nat → Nat) (e : Nat) (he : e ≤ 9) (hz : Z e < 128) (h9 : ¬ (e = 9 ∧ 1 < Z 9)) : psum Z e + Z e * 128 ^ e < 18446744073709551616 := by
  have h := psum_lt Z e
  by_cases h8 : e = 9
  · subst h8
    have hz1 : Z 9 ≤ 1 := by omega
    have : Z 9 * 128 ^ 9 ≤ 1 * 128 ^ 9 := Nat.mul_le_mul_right _ hz1
    omega
  · have h1 : Z e * 128 ^ e ≤ 127 * 128 ^ e := Nat.mul_le_mul_right _ (by omega)
    have h2 : 128 ^ e ≤ 128 ^ 8 := Nat.pow_le_pow_right (by omega) (by omega)
    omega

theorem uv_lt (Z : Nat → Nat) (n : Nat) : (uv Z n).1 < 18446744073709551616 := by
  rcases uv_cases Z n with ⟨_, h⟩ | ⟨e, _, h2, _, h4, h5, h6⟩
  · omega
  · rw [h6]; exact top_lt Z e h2 h4 h5

theorem uv_take (Z : Nat → Nat) (n : Nat) (h : 0 < (uv Z n).2) : ∃ k, (uv Z n).2 = ((k : Nat) : Int) ∧ 0 < k ∧ k ≤ n ∧ k ≤ 10 := by
  rcases uv_cases Z n with ⟨h0, _⟩ | ⟨e, h1, h2, _, _, _, h6⟩
  · omega
  · exact ⟨e + 1, by rw [h6]; simp, by omega, by omega, by omega⟩

/-- Bytes that agree up to n give the same. -/
theorem psum_congr {Z Y : Nat → Nat} : ∀ {k}, (∀ j, j < k → Z j = Y j) → psum Z k = psum Y k
  | 0, _ => rfl
  | k + 1, h => by rw [psum, psum, psum_congr (fun j hj => h j (by omega)), h k (by omega)]
theorem lowAt_congr {Z Y : Nat → Nat} : ∀ {k}, (∀ j, j < k → Z j = Y j) → lowAt Z k = lowAt Y k
  | 0, _ => rfl
  | k + 1, h => by rw [lowAt, lowAt, lowAt_congr (fun j hj => h j (by omega)), h k (by omega)]
theorem uv_congr {Z Y : Nat → Nat} {n : Nat} (h : ∀ j, j < n → Z j = Y j) : uv Z n = uv Y n := by
  unfold uv
  rw [← lowAt_congr (fun j hj => h j (by omega))]
  rcases lowAt_cases Z (min n 10) with ⟨h0, _⟩ | ⟨e, h0, h1, h2, h3⟩
  · rw [h0]
  · rw [h0]
    simp only []
    rw [psum_congr (k := e) (fun j hj => h j (by omega)), h e (by omega)]
    by_cases h9 : e = 9
    · rw [← h 9 (by omega)]
    · simp [h9]

/-- A number that is whole in the first n bytes is the same whatever follows. -/
theorem uv_more {Z Y : Nat → Nat} {n m : Nat} (h : ∀ j, j < n → Z j = Y j) (hm : n ≤ m) (hk : 0 < (uv Z n).2) : uv Y m = uv Z n := by
  rcases uv_cases Z n with ⟨h0, _⟩ | ⟨e, h1, h2, h3, h4, h5, h6⟩
  · omega
  · rw [h6, psum_congr (k := e) (Y := Y) (fun j hj => h j (by omega)), h e h1]
    refine uv_good (by omega) h2 (fun j hj => by rw [← h j (by omega)]; exact h3 j hj) (by rw [← h e h1]; exact h4) ?_
    by_cases h9 : e = 9
    · subst h9; rw [← h 9 h1]; exact h5
    · simp [h9]

/-! ### Horner -/
def hsum (Z : Nat → Nat) (e : Nat) : Nat → Nat
  | 0 => Z e
  | d + 1 => hsum Z e d * 128 + Z (e - 1 - d) % 128

theorem hsum_eq (Z : Nat → Nat) (e : Nat) : ∀ d, d ≤ e → psum Z (e - d) + hsum Z e d * 128 ^ (e - d) = psum Z e + Z e * 128 ^ e
  | 0, _ => by simp [hsum]
  | d + 1, h => by
    have ih := hsum_eq Z e d (by omega)
    obtain ⟨m, hm⟩ : ∃ m, e - d = m + 1 := ⟨e - d - 1, by omega⟩
    rw [hm, psum, Nat.pow_succ] at ih
    rw [show e - (d + 1) = m by omega, hsum, show e - 1 - d = m by omega, ← ih, Nat.add_mul, Nat.mul_assoc, Nat.mul_comm 128]
    omega

theorem hsum_lt (Z : Nat → Nat) (e d : Nat) (hd : d ≤ e) (he : e ≤ 9) (hz : Z e < 128) (h9 : ¬ (e = 9 ∧ 1 < Z 9)) : hsum Z e d < 18446744073709551616 := by
  have h1 := hsum_eq Z e d hd
  have h2 := top_lt Z e he hz h9
  have h3 : hsum Z e d * 1 ≤ hsum Z e d * 128 ^ (e - d) := Nat.mul_le_mul_left _ (Nat.one_le_pow _ _ (by omega))
  omega

theorem hsum_end (Z : Nat → Nat) (e : Nat) : hsum Z e e = psum Z e + Z e * 128 ^ e := by
  have := hsum_eq Z e e (Nat.le_refl _)
  simpa [psum] using this

/-! ### Bits -/
theorem or_low (h y : Nat) (hh : h * 128 + y % 128 < 18446744073709551616) : bits .or .u64 ((h : Int) * 128) ((y % 128 : Nat) : Int) = ((h * 128 + y % 128 : Nat) : Int) := by
  have := u64_or_nat (h * 128) (y % 128) (by omega) (by omega)
  rw [nat_join 7 (h * 128) (y % 128) (by omega) (by omega)] at this
  rw [← this]
  simp

theorem or_high (x y k : Nat) (hx : x < 128 ^ k) (hs : x + y * 128 ^ k < 18446744073709551616) : bits .or .u64 (x : Int) ((y * 128 ^ k : Nat) : Int) = ((x + y * 128 ^ k : Nat) : Int) := by
  have hp : 128 ^ k = 2 ^ (7 * k) := by rw [Nat.pow_mul]
  have := u64_or_nat x (y * 128 ^ k) (by omega) (by omega)
  rw [Nat.or_comm, nat_join (7 * k) (y * 128 ^ k) x (by rw [hp]; exact Nat.mul_mod_left _ _) (by rw [← hp]; exact hx)] at this
  rw [this]
  omega

end Go.Proofs.Qxb6615735aDoor
