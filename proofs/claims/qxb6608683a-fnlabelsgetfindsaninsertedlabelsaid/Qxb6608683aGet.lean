import Derived.Test.Qxb6608683aTo
namespace Go.Proofs.Qxb6608683a
open Go.RowKit
set_option linter.unusedSimpArgs false
set_option linter.unusedVariables false

theorem lab_drewN {w : World} {a : Option Addr} {n : Nat} {K V : Nat → ByteArray} (h : LabAt w a n K V) (q : Nat) : LabAt (w.drewN q) a n K V := fun hn => by
  obtain ⟨b, off, ha, hc⟩ := h hn
  exact ⟨b, off, ha, fun i hi => ⟨by simpa using (hc i hi).1, by simpa using (hc i hi).2⟩⟩

set_option maxHeartbeats 1000000 in
theorem clo15 (w : World) (g0 g1 i : Nat) (a : Option Addr) (n c : Nat) (key : ByteArray) (K V : Nat → ByteArray) (hn : n ≤ 4194304) (hi : i < n) (hA : LabAt w a n K V)
    (h0 : w.cell? ⟨g0, 0, none⟩ = some (.slice a n c)) (h1 : w.cell? ⟨g1, 0, none⟩ = some (.string key)) :
    Calls Try.prog 15 #[.int .i64 i, .pointer (some ⟨g0, 0, none⟩), .pointer (some ⟨g1, 0, none⟩)] w fun e w' => e = .returned (.bool (!Op.bytesLess (K i).toList key.toList)) ∧ ∃ q, w' = w.drewN q := by
  obtain ⟨b, off, rfl, hc⟩ := hA (by omega)
  obtain ⟨c1, c2⟩ := hc i hi
  clear hc
  go_enter Try.func15, Try.ntmps15
  go_wp2
  go_quiet (fail)
  go_wp2
  go_ret
  exact ⟨rfl, nq, rfl⟩

/-- The first label whose key is not below key. -/
def SearchPost (K : Nat → ByteArray) (n : Nat) (key : ByteArray) (e : Ending) : Prop :=
  ∃ i : Nat, e = .returned (.int .i64 i) ∧ i ≤ n ∧ (∀ j, j < i → Op.bytesLess (K j).toList key.toList = true) ∧ (∀ j, i ≤ j → j < n → Op.bytesLess (K j).toList key.toList = false)

set_option maxHeartbeats 1000000 in
theorem search14 (w : World) (g0 g1 : Nat) (a : Option Addr) (n c : Nat) (key : ByteArray) (K V : Nat → ByteArray) (hn : n ≤ 4194304) (hs : Sorted K n) (hA : LabAt w a n K V)
    (h0 : w.cell? ⟨g0, 0, none⟩ = some (.slice a n c)) (h1 : w.cell? ⟨g1, 0, none⟩ = some (.string key)) :
    Calls Try.prog 14 #[.int .i64 n, .func (.func 15) #[] #[.pointer (some ⟨g0, 0, none⟩), .pointer (some ⟨g1, 0, none⟩)]] w fun e w' => SearchPost K n key e ∧ ∃ q, w' = w.drewN q := by
  go_enter Try.func14, Try.ntmps14
  go_wp2
  go_loopw [5, 6] (fun i j wr => ∃ lo hi q : Nat, lo ≤ hi ∧ hi ≤ n ∧ i = .int .i64 lo ∧ j = .int .i64 hi ∧ (∀ j, j < lo → Op.bytesLess (K j).toList key.toList = true) ∧ (∀ j, hi ≤ j → j < n → Op.bytesLess (K j).toList key.toList = false) ∧ wr = w.drewN q)
    (fun i j _ => (intOf j - intOf i).toNat)
  case atStart => exact ⟨0, n, 0, by omega, by omega, rfl, rfl, fun j hj => by omega, fun j h1 h2 => by omega, rfl⟩
  case round =>
    obtain ⟨lo, hi, q, hlh, hhn, rfl, rfl, hlo, hhi, rfl⟩ := hrel
    have HL : Hid ((∀ j, j < lo → Op.bytesLess (K j).toList key.toList = true) ∧ (∀ j, hi ≤ j → j < n → Op.bytesLess (K j).toList key.toList = false)) := ⟨hlo, hhi⟩
    clear hlo hhi
    by_cases hlt : lo < hi
    · go_wp2_with fail
      obtain ⟨m, hm⟩ : ∃ m, m = (lo + hi) / 2 := ⟨_, rfl⟩
      have hmi : ((lo : Int) + (hi : Int)) / 2 = (m : Int) := by omega
      have hm1 : lo ≤ m := by omega
      have hm2 : m < hi := by omega
      clear hm
      rw [hmi]
      refine (clo15 _ g0 g1 m a n c key K V hn (by omega) (lab_drewN hA q) (by simpa using h0) (by simpa using h1)).mono ?_
      rintro e w1 ⟨rfl, q', rfl⟩
      cases hb : Op.bytesLess (K m).toList key.toList
      · go_wp2
        go_roundw
        · refine ⟨lo, m, q + q', by omega, by omega, rfl, rfl, HL.out.1, ?_, by simp⟩
          intro j h1 h2
          by_cases hj : j = m
          · subst hj; exact hb
          · cases hbj : Op.bytesLess (K j).toList key.toList
            · rfl
            · have := less_trans (hs m j (by omega) (by omega)) hbj
              rw [this] at hb; cases hb
        · simp only [intOf]; omega
      · go_wp2
        go_roundw
        · refine ⟨m + 1, hi, q + q', by omega, by omega, by simp, rfl, ?_, HL.out.2, by simp⟩
          intro j h1
          by_cases hj : j = m
          · subst hj; exact hb
          · exact less_trans (hs j m (by omega) (by omega)) hb
        · simp only [intOf]; omega
    · obtain rfl : lo = hi := by omega
      go_wp2
      go_ret
      exact ⟨⟨lo, rfl, hhn, HL.out.1, HL.out.2⟩, q, rfl⟩
end Go.Proofs.Qxb6608683a
