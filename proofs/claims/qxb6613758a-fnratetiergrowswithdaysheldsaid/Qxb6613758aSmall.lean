import Derived.Test.Qxb6613758aRows
import Derived.Test.Qxb6613758aPlain
import Derived.Test.Qxb6613758aLaws
import Derived.WalkSpells
import Derived.WalkLawsBesides
namespace Go.Proofs.Qxb6613758a
open Go.RowKit
set_option linter.unusedSimpArgs false
set_option linter.unusedVariables false

/-- n tiers lie from the slice's head on. -/
def TierAt (w : World) (a : Option Addr) (n : Nat) (D E : Nat → Int) : Prop :=
  0 < n → ∃ b off, a = some ⟨b, off, none⟩ ∧ ∀ i, i < n → w.cell? ⟨b, off + i * 2, none⟩ = some (.int .i64 (D i)) ∧ w.cell? ⟨b, off + i * 2 + 1, none⟩ = some (.int .i32 (E i))

/-- n numbers lie from the slice's head on. -/
def IntsAt (w : World) (a : Option Addr) (n : Nat) (B : Nat → Int) : Prop :=
  0 < n → ∃ b off, a = some ⟨b, off, none⟩ ∧ ∀ i, i < n → w.cell? ⟨b, off + i, none⟩ = some (.int .i64 (B i))

/-- A schedule of n tiers lies from the slice's head on. -/
def SchAt (w : World) (a : Option Addr) (n : Nat) (D E : Nat → Int) : Prop :=
  0 < n → ∃ b off, a = some ⟨b, off, none⟩ ∧ ∀ i, i < n → w.cell? ⟨b, off + i * 3, none⟩ = some (.int .i64 (D i)) ∧ (∃ q, w.cell? ⟨b, off + i * 3 + 1, none⟩ = some (.pointer q)) ∧ w.cell? ⟨b, off + i * 3 + 2, none⟩ = some (.int .i32 (E i))

/-- It returned a bool. -/
def RetBool (e : Ending) : Prop := ∃ r : Bool, e = .returned (.bool r)

theorem bytes5 (w : World) (a : Option Addr) (n c : Nat) (cut days : Int) (hn : n ≤ maxLen) : Calls Try.prog 5 #[.slice a n c, .int .i64 cut, .int .i64 days] w fun e w' => RetBool e ∧ w' = w := by
  unfold maxLen at hn
  go_enter Try.func5, Try.ntmps5
  go_wp2
  all_goals
    go_ret
    exact ⟨⟨_, rfl⟩, rfl⟩

theorem bytes9 (w : World) (a : Option Addr) (n c : Nat) (cut days : Int) (hn : n ≤ maxLen) : Calls Try.prog 9 #[.slice a n c, .int .i64 cut, .int .i64 days] w fun e w' => RetBool e ∧ w' = w := by
  unfold maxLen at hn
  go_enter Try.func9, Try.ntmps9
  go_wp2
  all_goals
    go_ret
    exact ⟨⟨_, rfl⟩, rfl⟩

/-- It returned a pointer to a new number. -/
def PtrPost (w : World) (e : Ending) (w' : World) : Prop := ∃ q, e = .returned (.pointer q) ∧ Below w.heap.size w w'

theorem newInt15 (w : World) : Calls Try.prog 15 #[.int .i64 0] w fun e w' => PtrPost w e w' := by
  go_enter Try.func15, Try.ntmps15
  go_wp2
  go_ret
  exact ⟨_, rfl, (Below.refl _ _).alloc (Nat.le_refl _) _⟩
end Go.Proofs.Qxb6613758a
