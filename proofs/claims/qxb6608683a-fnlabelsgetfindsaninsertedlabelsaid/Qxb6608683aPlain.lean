import Derived.Laws.StructEq
namespace Go.Proofs.Qxb6608683a

theorem less_irrefl : ∀ x : List UInt8, Op.bytesLess x x = false
  | [] => rfl
  | a :: x => by simp [Op.bytesLess, less_irrefl x]

theorem less_trans : ∀ {x y z : List UInt8}, Op.bytesLess x y = true → Op.bytesLess y z = true → Op.bytesLess x z = true
  | _, [], _, h, _ => by simp [Op.bytesLess] at h
  | _, _ :: _, [], _, h => by simp [Op.bytesLess] at h
  | [], _ :: _, _ :: _, _, _ => rfl
  | a :: x, b :: y, c :: z, h1, h2 => by
    simp only [Op.bytesLess, Bool.or_eq_true, Bool.and_eq_true, decide_eq_true_eq, beq_iff_eq] at h1 h2 ⊢
    rcases h1 with h1 | ⟨rfl, h1⟩
    · rcases h2 with h2 | ⟨rfl, h2⟩
      · exact .inl (UInt8.lt_trans h1 h2)
      · exact .inl h1
    · rcases h2 with h2 | ⟨rfl, h2⟩
      · exact .inl h2
      · exact .inr ⟨rfl, less_trans h1 h2⟩

theorem less_total : ∀ {x y : List UInt8}, Op.bytesLess x y = false → Op.bytesLess y x = false → x = y
  | [], [], _, _ => rfl
  | [], _ :: _, h, _ => by simp [Op.bytesLess] at h
  | _ :: _, [], _, h => by simp [Op.bytesLess] at h
  | a :: x, b :: y, h1, h2 => by
    simp only [Op.bytesLess, Bool.or_eq_false_iff, Bool.and_eq_false_iff, decide_eq_false_iff_not, beq_eq_false_iff_ne] at h1 h2
    have hab : a = b := by
      have e1 := h1.1
      have e2 := h2.1
      rw [UInt8.lt_iff_toNat_lt] at e1 e2
      exact UInt8.toNat_inj.1 (by omega)
    subst hab
    rcases h1.2 with h | h
    · exact absurd rfl h
    · rcases h2.2 with h' | h'
      · exact absurd rfl h'
      · rw [less_total h h']

theorem less_asymm {x y : List UInt8} (h : Op.bytesLess x y = true) : Op.bytesLess y x = false := by
  cases e : Op.bytesLess y x
  · rfl
  · have := less_trans h e
    rw [less_irrefl] at this
    cases this

theorem bytes_ext {a b : ByteArray} (h : a.toList = b.toList) : a = b := by
  rw [ByteArray.toList_eq, ByteArray.toList_eq] at h
  obtain ⟨⟨x⟩⟩ := a
  obtain ⟨⟨y⟩⟩ := b
  simp only at h
  rw [h]

/-- The keys of the first n labels are in strictly increasing order. -/
def Sorted (K : Nat → ByteArray) (n : Nat) : Prop := ∀ i j, i < j → j < n → Op.bytesLess (K i).toList (K j).toList = true

theorem sorted_of_steps {K : Nat → ByteArray} {n : Nat} (h : ∀ i, i + 1 < n → Op.bytesLess (K i).toList (K (i + 1)).toList = true) : Sorted K n := by
  intro i j hij hj
  induction j with
  | zero => omega
  | succ j ih =>
    by_cases e : i = j
    · subst e; exact h i hj
    · exact less_trans (ih (by omega) (by omega)) (h j hj)

theorem Sorted.inj {K : Nat → ByteArray} {n : Nat} (h : Sorted K n) {i j : Nat} (hi : i < n) (hj : j < n) (e : K i = K j) : i = j := by
  rcases Nat.lt_trichotomy i j with hl | rfl | hl
  · have := h i j hl hj
    rw [e, less_irrefl] at this
    cases this
  · rfl
  · have := h j i hl hi
    rw [e, less_irrefl] at this
    cases this

/-- v, ok is what a look-up of key among the first n labels answers. -/
def IsLook (K V : Nat → ByteArray) (n : Nat) (key v : ByteArray) (ok : Bool) : Prop :=
  (ok = true ∧ ∃ i, i < n ∧ K i = key ∧ v = V i) ∨ (ok = false ∧ v = ByteArray.empty ∧ ∀ i, i < n → K i ≠ key)

theorem IsLook.unique {K V : Nat → ByteArray} {n : Nat} {key v v' : ByteArray} {ok ok' : Bool} (hs : Sorted K n) (h : IsLook K V n key v ok) (h' : IsLook K V n key v' ok') : v = v' ∧ ok = ok' := by
  rcases h with ⟨rfl, i, hi, hk, rfl⟩ | ⟨rfl, rfl, hall⟩ <;> rcases h' with ⟨rfl, j, hj, hk', rfl⟩ | ⟨rfl, rfl, hall'⟩
  · rw [hs.inj hi hj (hk.trans hk'.symm)]
    exact ⟨rfl, rfl⟩
  · exact absurd hk (hall' i hi)
  · exact absurd hk' (hall j hj)
  · exact ⟨rfl, rfl⟩

/-- Behind a binary search: i is the first label whose key is not below key. -/
theorem look_search {K V : Nat → ByteArray} {n i : Nat} {key : ByteArray} (hs : Sorted K n) (hlo : ∀ j, j < i → Op.bytesLess (K j).toList key.toList = true) (hhi : ∀ j, i ≤ j → j < n → Op.bytesLess (K j).toList key.toList = false) :
    (i < n → K i = key → IsLook K V n key (V i) true) ∧ ((n ≤ i ∨ K i ≠ key) → IsLook K V n key ByteArray.empty false) := by
  refine ⟨fun hi hk => .inl ⟨rfl, i, hi, hk, rfl⟩, fun h => .inr ⟨rfl, rfl, fun j hj e => ?_⟩⟩
  rcases Nat.lt_trichotomy j i with hl | rfl | hl
  · have := hlo j hl
    rw [e, less_irrefl] at this
    cases this
  · rcases h with h | h
    · omega
    · exact h e
  · have h1 := hs i j hl hj
    rw [e] at h1
    have h2 := hhi i (Nat.le_refl _) (by omega)
    rw [h1] at h2
    cases h2

/-! ### An inserted label -/
/-- x put in at place p. -/
def ins (K : Nat → ByteArray) (p : Nat) (x : ByteArray) (i : Nat) : ByteArray := if i < p then K i else if i = p then x else K (i - 1)

theorem ins_sorted {K : Nat → ByteArray} {n p : Nat} {key : ByteArray} (hs : Sorted K n) (hp : p ≤ n) (hlo : ∀ j, j < p → Op.bytesLess (K j).toList key.toList = true)
    (hhi : p < n → Op.bytesLess (K p).toList key.toList = false) (hnew : ∀ j, j < n → K j ≠ key) : Sorted (ins K p key) (n + 1) := by
  have hup : ∀ j, p ≤ j → j < n → Op.bytesLess key.toList (K j).toList = true := fun j hj hjn => by
    have h0 : Op.bytesLess key.toList (K p).toList = true := by
      cases e : Op.bytesLess key.toList (K p).toList
      · exact absurd (bytes_ext (less_total (hhi (by omega)) e)) (hnew p (by omega))
      · rfl
    by_cases e : j = p
    · subst e; exact h0
    · exact less_trans h0 (hs p j (by omega) hjn)
  refine sorted_of_steps fun i hi => ?_
  by_cases h1 : i + 1 < p
  · rw [ins, ins, if_pos (by omega), if_pos h1]
    exact hs i (i + 1) (by omega) (by omega)
  · by_cases h2 : i + 1 = p
    · rw [ins, ins, if_pos (by omega), if_neg (by omega), if_pos h2]
      exact hlo i (by omega)
    · by_cases h3 : i = p
      · rw [ins, ins, if_neg (by omega), if_pos h3, if_neg (by omega), if_neg (by omega), Nat.add_sub_cancel]
        exact hup i (by omega) (by omega)
      · rw [ins, ins, if_neg (by omega), if_neg h3, if_neg (by omega), if_neg (by omega), Nat.add_sub_cancel]
        exact hs (i - 1) i (by omega) (by omega)

theorem ins_found {K V : Nat → ByteArray} {n p : Nat} {key value v : ByteArray} {ok : Bool} (hs : Sorted (ins K p key) (n + 1)) (hp : p ≤ n) (h : IsLook (ins K p key) (ins V p value) (n + 1) key v ok) : ok = true ∧ v = value := by
  have h0 : IsLook (ins K p key) (ins V p value) (n + 1) key value true := .inl ⟨rfl, p, by omega, by simp [ins], by simp [ins]⟩
  obtain ⟨e1, e2⟩ := h.unique hs h0
  exact ⟨e2, e1⟩

theorem ins_other {K V : Nat → ByteArray} {n p : Nat} {key value probe v v' : ByteArray} {ok ok' : Bool} (hs : Sorted K n) (hp : p ≤ n) (hne : probe ≠ key)
    (h : IsLook (ins K p key) (ins V p value) (n + 1) probe v ok) (h' : IsLook K V n probe v' ok') : v = v' ∧ ok = ok' := by
  refine IsLook.unique hs ?_ h'
  rcases h with ⟨rfl, i, hi, hk, rfl⟩ | ⟨rfl, rfl, hall⟩
  · left
    refine ⟨rfl, ?_⟩
    by_cases h1 : i < p
    · simp only [ins, if_pos h1] at hk ⊢
      exact ⟨i, by omega, hk, rfl⟩
    · by_cases h2 : i = p
      · simp only [ins, if_neg h1, if_pos h2] at hk
        exact absurd hk.symm hne
      · simp only [ins, if_neg h1, if_neg h2] at hk ⊢
        exact ⟨i - 1, by omega, hk, rfl⟩
  · right
    refine ⟨rfl, rfl, fun i hi e => ?_⟩
    by_cases h1 : i < p
    · exact hall i (by omega) (by simp only [ins, if_pos h1]; exact e)
    · exact hall (i + 1) (by omega) (by simp only [ins]; rw [if_neg (by omega), if_neg (by omega), Nat.add_sub_cancel]; exact e)

end Go.Proofs.Qxb6608683a
