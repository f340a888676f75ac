import Derived.Test.Qxb6615735aDoorUv
namespace Go.Proofs.Qxb6615735aDoor
open Go.RowKit
set_option linter.unusedSimpArgs false
set_option linter.unusedVariables false

theorem or_low' (h y : Nat) (hh : h * 128 + y % 128 < 18446744073709551616) : bits .or .u64 (IntKind.u64.wrap ((h : Int) * 128)) ((y : Int) % 128) = ((h * 128 + y % 128 : Nat) : Int) := by
  rw [IntKind.wrap_u64, Int.emod_eq_of_lt (by omega) (by omega), ← or_low h y hh]
  simp

set_option maxHeartbeats 2000000 in
set_option maxRecDepth 100000 in
theorem zzuvarint11 (w : World) (a : Option Addr) (n c : Nat) (Z : Nat → Nat) (hn : n ≤ 1048576) (hZ : ∀ i, Z i < 256) (hA : RowAt w a n Z) :
    Calls Tryd.prog 11 #[.slice a n c] w fun e w' => e = .returned (.tuple #[.int .u64 ((uv Z n).1 : Nat), .int .i64 (uv Z n).2]) ∧ w' = w := by
  by_cases hn10 : 10 < n
  all_goals
    go_enter Tryd.func11, Tryd.ntmps11
    go_wp2
    go_loop [5, 6] (fun e i => ∃ k : Nat, k ≤ n ∧ k ≤ 10 ∧ i = .int .i64 k ∧ e = .int .i64 (-1) ∧ ∀ j, j < k → 128 ≤ Z j) (fun _ i => n - (intOf i).toNat)
    case atStart => exact ⟨0, by omega, by omega, rfl, rfl, fun j hj => by omega⟩
    case round =>
      obtain ⟨k, hk, hk10, rfl, rfl, hall⟩ := hrel
      by_cases hlt : k < n ∧ k < 10
      · obtain ⟨hlt, hlt10⟩ := hlt
        obtain ⟨b, off, rfl, hc⟩ := hA (by omega)
        have hck := hc k hlt
        have hzk := hZ k
        by_cases hz : Z k < 128
        · by_cases h9 : k = 9 ∧ 1 < Z 9
          · have HV : Hid (uv Z n = (0, -10)) := by obtain ⟨rfl, h91⟩ := h9; exact uv_wide hlt hall hz h91
            have h9c := hc 9 (by omega)
            have hn9 : 9 < n := by omega
            have hz1 : 1 < Z 9 := h9.2
            have e9 : ((k : Int) == 9) = true := beq_iff_eq.2 (by omega)
            clear h9 hc hall
            go_wp2
            go_ret2
            exact ⟨by rw [HV.out]; exact ret_two rfl rfl, rfl⟩
          · have HV : Hid (uv Z n = (psum Z k + Z k * 128 ^ k, (k : Int) + 1)) := uv_good hlt (by omega) hall hz h9
            have HL : Hid (∀ d, d ≤ k → hsum Z k d < 18446744073709551616) := fun d hd => hsum_lt Z k d hd (by omega) hz h9
            have HE : Hid (hsum Z k k = psum Z k + Z k * 128 ^ k) := hsum_end Z k
            have HC : Hid (∀ i, i < n → w.cell? ⟨b, off + i, none⟩ = some (.int .u8 ((Z i : Nat) : Int))) := hc
            have HN : Hid (k = 9 → ¬ 1 < Z 9) := fun h h1 => h9 ⟨h, h1⟩
            clear h9 hall
            by_cases h9' : k = 9
            · have h9c := hc 9 (by omega)
              have hn9 : 9 < n := by omega
              have hz1 : ¬ 1 < Z 9 := HN.out h9'
              have e9 : ((k : Int) == 9) = true := beq_iff_eq.2 (by omega)
              clear hc h9'
              go_wp2
              go_loop [7, 8] (fun v i => ∃ d : Nat, d ≤ k ∧ i = .int .i64 ((k : Int) - 1 - d) ∧ v = .int .u64 ((hsum Z k d : Nat) : Int)) (fun _ i => (intOf i + 1).toNat)
              case atStart => exact ⟨0, by omega, by simp, rfl⟩
              case round =>
                obtain ⟨d, hd, rfl, rfl⟩ := hrel
                by_cases hdk : d < k
                · obtain ⟨j, hj⟩ : ∃ j : Nat, j = k - 1 - d := ⟨_, rfl⟩
                  have hjk : (k : Int) - 1 - (d : Int) = (j : Int) := by omega
                  have hjn : j < n := by omega
                  have hcj := HC.out j hjn
                  have hzj := hZ j
                  have hl1 := HL.out d hd
                  have hl2 := HL.out (d + 1) (by omega)
                  rw [hsum, ← hj] at hl2
                  have HS : Hid (hsum Z k (d + 1) = hsum Z k d * 128 + Z j % 128) := by rw [hj]; rfl
                  have hmask : bits .and .u8 ((Z j : Nat) : Int) 127 = ((Z j % 128 : Nat) : Int) := by
                    have := u8_and_nat (Z j) 127 hzj (by omega)
                    rw [nat_mask7] at this
                    exact this
                  have HO : Hid (bits .or .u64 (IntKind.u64.wrap (((hsum Z k d : Nat) : Int) * 128)) (((Z j : Nat) : Int) % 128) = ((hsum Z k d * 128 + Z j % 128 : Nat) : Int)) := or_low' _ _ hl2
                  have HJ : Hid ((j : Int) = (k : Int) - 1 - (d : Int)) := hjk.symm
                  have hj0 : (j : Int) < (n : Int) := by omega
                  rw [hjk]
                  clear hj hl2
                  go_wp2
                  go_round
                  case rel =>
                    refine ⟨d + 1, by omega, ?_, ?_⟩
                    · rw [HJ.out]
                      exact congrArg (Value.int .i64) (by omega)
                    · rw [HS.out, ← HO.out]
                  case measure => simp [intOf]
                · go_wp2
                  go_ret2
                  obtain rfl : d = k := by omega
                  exact ⟨by rw [HV.out]; exact ret_two (by rw [HE.out]) rfl, rfl⟩
            · have e9 : ((k : Int) == 9) = false := beq_eq_false_iff_ne.2 (by omega)
              clear hc h9'
              go_wp2
              go_loop [7, 8] (fun v i => ∃ d : Nat, d ≤ k ∧ i = .int .i64 ((k : Int) - 1 - d) ∧ v = .int .u64 ((hsum Z k d : Nat) : Int)) (fun _ i => (intOf i + 1).toNat)
              case atStart => exact ⟨0, by omega, by simp, rfl⟩
              case round =>
                obtain ⟨d, hd, rfl, rfl⟩ := hrel
                by_cases hdk : d < k
                · obtain ⟨j, hj⟩ : ∃ j : Nat, j = k - 1 - d := ⟨_, rfl⟩
                  have hjk : (k : Int) - 1 - (d : Int) = (j : Int) := by omega
                  have hjn : j < n := by omega
                  have hcj := HC.out j hjn
                  have hzj := hZ j
                  have hl1 := HL.out d hd
                  have hl2 := HL.out (d + 1) (by omega)
                  rw [hsum, ← hj] at hl2
                  have HS : Hid (hsum Z k (d + 1) = hsum Z k d * 128 + Z j % 128) := by rw [hj]; rfl
                  have hmask : bits .and .u8 ((Z j : Nat) : Int) 127 = ((Z j % 128 : Nat) : Int) := by
                    have := u8_and_nat (Z j) 127 hzj (by omega)
                    rw [nat_mask7] at this
                    exact this
                  have HO : Hid (bits .or .u64 (IntKind.u64.wrap (((hsum Z k d : Nat) : Int) * 128)) (((Z j : Nat) : Int) % 128) = ((hsum Z k d * 128 + Z j % 128 : Nat) : Int)) := or_low' _ _ hl2
                  have HJ : Hid ((j : Int) = (k : Int) - 1 - (d : Int)) := hjk.symm
                  have hj0 : (j : Int) < (n : Int) := by omega
                  rw [hjk]
                  clear hj hl2
                  go_wp2
                  go_round
                  case rel =>
                    refine ⟨d + 1, by omega, ?_, ?_⟩
                    · rw [HJ.out]
                      exact congrArg (Value.int .i64) (by omega)
                    · rw [HS.out, ← HO.out]
                  case measure => simp [intOf]
                · go_wp2
                  go_ret2
                  obtain rfl : d = k := by omega
                  exact ⟨by rw [HV.out]; exact ret_two (by rw [HE.out]) rfl, rfl⟩
        · go_wp2
          go_round
          case rel =>
            refine ⟨k + 1, by omega, by omega, by go_num, rfl, fun j hj => ?_⟩
            by_cases e : j = k
            · subst e; omega
            · exact hall j (by omega)
          case measure => simp [intOf]; omega
      · first
          | (have HV : Hid (uv Z n = (0, -11)) := uv_over hn10 (fun j hj => hall j (by omega))
             clear hall
             go_wp2
             go_ret2
             exact ⟨by rw [HV.out]; exact ret_two rfl rfl, rfl⟩)
          | (have HV : Hid (uv Z n = (0, 0)) := uv_short (by omega) (fun j hj => hall j (by omega))
             clear hall
             go_wp2
             go_ret2
             exact ⟨by rw [HV.out]; exact ret_two rfl rfl, rfl⟩)
end Go.Proofs.Qxb6615735aDoor
