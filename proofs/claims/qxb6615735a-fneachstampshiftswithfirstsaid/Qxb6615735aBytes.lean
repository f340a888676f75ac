import Derived.Test.Qxb6615735aRows
import Derived.WalkKit
import Derived.WalkSpells
import Derived.WalkLawsBesides
namespace Go.Proofs.Qxb6615735a
open Go.RowKit
set_option linter.unusedVariables false

/-- It returned a bool. -/
def RetBool (e : Ending) : Prop := ∃ r, e = .returned (.bool r)
theorem RetBool.mk (r : Bool) : RetBool (.returned (.bool r)) := ⟨r, rfl⟩

set_option maxHeartbeats 400000 in
theorem bytes5 (o : Int) (i f : Int) (a3 a4 : Option Addr) (l3 c3 l4 c4 : Nat) (cut : Int) (w : World) (h3 : l3 ≤ maxLen) (h4 : l4 ≤ maxLen) :
    Calls Try.prog 5 #[.int .u32 o, .int .u64 i, .int .u64 f, .slice a3 l3 c3, .slice a4 l4 c4, .int .i64 cut] w fun e w' => RetBool e ∧ w' = w := by
  unfold maxLen at h3 h4
  go_enter Try.func5, Try.ntmps5
  go_wp2
  · go_ret
    exact ⟨RetBool.mk _, rfl⟩
  · go_loop [13, 14] (fun n i => ∃ (k : Nat) (m : Int), k ≤ l3 ∧ 0 ≤ m ∧ m ≤ 1048576 ∧ i = .int .i64 k ∧ n = .int .i64 m) (fun _ i => l3 - (intOf i).toNat)
    case atStart => exact ⟨0, l3, by omega, by omega, by omega, rfl, rfl⟩
    case round =>
      obtain ⟨k, m, hk, hm0, hm1, rfl, rfl⟩ := hrel
      by_cases hlt : k < l3
      · go_wp2
        · go_ret
          exact ⟨RetBool.mk _, rfl⟩
        · go_round
          case rel => exact ⟨k + 1, m + 32, by omega, by omega, by omega, by go_num, rfl⟩
          case measure => simp [intOf]; omega
      · go_wp2
        all_goals
          go_ret
          exact ⟨RetBool.mk _, rfl⟩

set_option maxHeartbeats 400000 in
theorem bytes9 (o i o2 i2 f d : Int) (a3 a4 : Option Addr) (l3 c3 l4 c4 : Nat) (w : World) (h3 : l3 ≤ maxLen) (h4 : l4 ≤ maxLen) :
    Calls Try.prog 9 #[.int .u32 o, .int .u64 i, .int .u32 o2, .int .u64 i2, .int .u64 f, .int .u64 d, .slice a3 l3 c3, .slice a4 l4 c4] w fun e w' => RetBool e ∧ w' = w := by
  unfold maxLen at h3 h4
  go_enter Try.func9, Try.ntmps9
  go_wp2
  · go_ret
    exact ⟨RetBool.mk _, rfl⟩
  · go_loop [17, 18] (fun n i => ∃ (k : Nat) (m : Int), k ≤ l3 ∧ 0 ≤ m ∧ m ≤ 1048576 ∧ i = .int .i64 k ∧ n = .int .i64 m) (fun _ i => l3 - (intOf i).toNat)
    case atStart => exact ⟨0, l3, by omega, by omega, by omega, rfl, rfl⟩
    case round =>
      obtain ⟨k, m, hk, hm0, hm1, rfl, rfl⟩ := hrel
      by_cases hlt : k < l3
      · go_wp2
        · go_ret
          exact ⟨RetBool.mk _, rfl⟩
        · go_round
          case rel => exact ⟨k + 1, m + 32, by omega, by omega, by omega, by go_num, rfl⟩
          case measure => simp [intOf]; omega
      · go_wp2
        all_goals
          go_ret
          exact ⟨RetBool.mk _, rfl⟩
end Go.Proofs.Qxb6615735a
