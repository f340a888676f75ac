import Derived.Test.Qxb6615735aDoorRows
import Derived.Test.Qxb6615735aDoorPlain
import Derived.WalkKit
import Derived.WalkSpells
import Derived.WalkLawsBesides
import Derived.BigQuiet
namespace Go.Proofs.Qxb6615735aDoor
open Go.RowKit
set_option linter.unusedSimpArgs false
set_option linter.unusedVariables false

/-- n bytes lie from the slice's head on. -/
def RowAt (w : World) (a : Option Addr) (n : Nat) (Z : Nat → Nat) : Prop :=
  0 < n → ∃ b off, a = some ⟨b, off, none⟩ ∧ ∀ i, i < n → w.cell? ⟨b, off + i, none⟩ = some (.int .u8 ((Z i : Nat) : Int))

theorem ret_two {a b c d : Int} (h1 : a = b) (h2 : c = d) : Ending.returned (.tuple #[.int .u64 a, .int .i64 c]) = .returned (.tuple #[.int .u64 b, .int .i64 d]) := by rw [h1, h2]

theorem or_walk (x y k : Nat) (hx : x < 128 ^ k) (hs : x + y * 128 ^ k < 18446744073709551616) : bits .or .u64 (x : Int) (IntKind.u64.wrap ((y : Int) * 2 ^ (7 * k))) = ((x + y * 128 ^ k : Nat) : Int) := by
  have hp : (y : Int) * 2 ^ (7 * k) = ((y * 128 ^ k : Nat) : Int) := by
    rw [Int.natCast_mul, Int.natCast_pow, Int.pow_mul]
    rfl
  rw [hp, IntKind.wrap_u64, Int.emod_eq_of_lt (by omega) (by omega)]
  exact or_high x y k hx hs

set_option maxHeartbeats 1000000 in
set_option maxRecDepth 100000 in
theorem uvarint17 (w : World) (a : Option Addr) (n c : Nat) (Z : Nat → Nat) (hn : n ≤ 1048576) (hZ : ∀ i, Z i < 256) (hA : RowAt w a n Z) :
    Calls Tryd.prog 17 #[.slice a n c] w fun e w' => e = .returned (.tuple #[.int .u64 ((uv Z n).1 : Nat), .int .i64 (uv Z n).2]) ∧ w' = w := by
  go_enter Tryd.func17, Tryd.ntmps17
  go_wp2
  go_loop [4, 5, 10] (fun x s i => ∃ (k : Nat) (X : Int), k ≤ n ∧ k ≤ 10 ∧ i = .int .i64 k ∧ s = .int .u64 (7 * k : Nat) ∧ x = .int .u64 X ∧ (k ≤ 9 → X = ((psum Z k : Nat) : Int)) ∧ ∀ j, j < k → 128 ≤ Z j) (fun _ _ i => n - (intOf i).toNat)
  case atStart => exact ⟨0, 0, by omega, by omega, rfl, rfl, rfl, fun _ => rfl, fun j hj => by omega⟩
  case round =>
    obtain ⟨k, X, hk, hk10, rfl, rfl, rfl, hX, hall⟩ := hrel
    by_cases hlt : k < n
    · obtain ⟨b, off, rfl, hc⟩ := hA (by omega)
      have hck := hc k hlt
      have hzk := hZ k
      by_cases h10 : k = 10
      · have HV : Hid (uv Z n = (0, -11)) := by subst h10; exact uv_over hlt hall
        have e10 : ((k : Int) == 10) = true := beq_iff_eq.2 (by omega)
        have H10 : Hid (k = 10) := h10
        clear hc hall h10 hX
        go_wp2
        go_ret2
        exact ⟨by rw [HV.out]; exact ret_two rfl (by have := H10.out; omega), rfl⟩
      · obtain rfl := hX (by omega)
        have e10 : ((k : Int) == 10) = false := beq_eq_false_iff_ne.2 (by omega)
        have HA : Hid (∀ j, j < k → 128 ≤ Z j) := hall
        clear hc hall
        by_cases hz : Z k < 128
        · by_cases h9 : k = 9 ∧ 1 < Z 9
          · have HV : Hid (uv Z n = (0, -10)) := by obtain ⟨rfl, h91⟩ := h9; exact uv_wide hlt HA.out hz h91
            have hk9 : k = 9 := h9.1
            have hz1 : 1 < Z k := by rw [hk9]; exact h9.2
            have H9 : Hid (k = 9) := hk9
            have e9 : ((k : Int) == 9) = true := beq_iff_eq.2 (by omega)
            clear h9 hk9
            go_wp2
            go_ret2
            exact ⟨by rw [HV.out]; exact ret_two rfl (by have := H9.out; omega), rfl⟩
          · have HV : Hid (uv Z n = (psum Z k + Z k * 128 ^ k, (k : Int) + 1)) := uv_good hlt (by omega) HA.out hz h9
            have HO : Hid (bits .or .u64 ((psum Z k : Nat) : Int) (IntKind.u64.wrap (((Z k : Nat) : Int) * 2 ^ (7 * k))) = ((psum Z k + Z k * 128 ^ k : Nat) : Int)) := or_walk _ _ _ (psum_lt Z k) (top_lt Z k (by omega) hz h9)
            by_cases h9' : k = 9
            · have hz1 : ¬ 1 < Z k := fun h => h9 ⟨h9', by rw [← h9']; exact h⟩
              have e9 : ((k : Int) == 9) = true := beq_iff_eq.2 (by omega)
              clear h9 h9'
              go_wp2
              go_ret2
              exact ⟨by rw [HV.out]; exact ret_two HO.out rfl, rfl⟩
            · have e9 : ((k : Int) == 9) = false := beq_eq_false_iff_ne.2 (by omega)
              go_wp2
              go_ret2
              exact ⟨by rw [HV.out]; exact ret_two HO.out rfl, rfl⟩
        · have hmask : bits .and .u8 ((Z k : Nat) : Int) 127 = ((Z k % 128 : Nat) : Int) := by
            have := u8_and_nat (Z k) 127 hzk (by omega)
            rw [nat_mask7] at this
            exact this
          have HO : Hid (k + 1 ≤ 9 → bits .or .u64 ((psum Z k : Nat) : Int) (IntKind.u64.wrap (((Z k % 128 : Nat) : Int) * 2 ^ (7 * k))) = ((psum Z k + (Z k % 128) * 128 ^ k : Nat) : Int)) := fun h9 => or_walk _ _ _ (psum_lt Z k) (by
            have h1 := psum_lt Z (k + 1)
            rw [psum] at h1
            have h2 : 128 ^ (k + 1) ≤ 128 ^ 9 := Nat.pow_le_pow_right (by omega) (by omega)
            omega)
          go_wp2
          go_round
          case rel =>
            refine ⟨k + 1, _, by omega, by omega, by go_num, by go_num, rfl, fun h9 => ?_, fun j hj => ?_⟩
            · rw [psum, ← HO.out h9]
              simp
            · by_cases e : j = k
              · subst e; omega
              · exact HA.out j (by omega)
          case measure => simp [intOf]; omega
    · have HV : Hid (uv Z n = (0, 0)) := uv_short (by omega) (fun j hj => hall j (by omega))
      clear hall hX
      go_wp2
      go_ret2
      exact ⟨by rw [HV.out]; exact ret_two rfl rfl, rfl⟩
end Go.Proofs.Qxb6615735aDoor
