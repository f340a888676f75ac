import Derived.Test.Qxb6608683aRows
import Derived.Test.Qxb6608683aPlain
import Derived.WalkKit
import Derived.WalkSpells
import Derived.WalkLawsBesides
import Derived.BigQuiet
namespace Go.Proofs.Qxb6608683a
open Go.RowKit
set_option linter.unusedSimpArgs false
set_option linter.unusedVariables false

/-- n labels lie from the slice's head on. -/
def LabAt (w : World) (a : Option Addr) (n : Nat) (K V : Nat → ByteArray) : Prop :=
  0 < n → ∃ b off, a = some ⟨b, off, none⟩ ∧ ∀ i, i < n → w.cell? ⟨b, off + i * 2, none⟩ = some (.string (K i)) ∧ w.cell? ⟨b, off + i * 2 + 1, none⟩ = some (.string (V i))

/-- It returned a bool; true only under p. -/
def RetIf (p : Prop) (e : Ending) : Prop := ∃ r : Bool, e = .returned (.bool r) ∧ (r = true → p)

set_option maxHeartbeats 1000000 in
theorem bytes5 (w : World) (a : Option Addr) (n c : Nat) (key : ByteArray) (K V : Nat → ByteArray) (hn : n ≤ maxLen) (hk : key.size ≤ maxLen) (hK : ∀ i, (K i).size ≤ maxLen) (hV : ∀ i, (V i).size ≤ maxLen) (hA : LabAt w a n K V) :
    Calls Try.prog 5 #[.slice a n c, .string key] w fun e w' => RetIf (n ≤ 1048576) e ∧ w' = w := by
  unfold maxLen at hn hk hK hV
  go_enter Try.func5, Try.ntmps5
  go_wp2
  · go_ret
    exact ⟨⟨false, rfl, fun h => by cases h⟩, rfl⟩
  · have hn' : n ≤ 1048576 := by omega
    go_loop [5, 6] (fun s i => ∃ (k : Nat) (m : Int), k ≤ n ∧ 0 ≤ m ∧ m ≤ 1048576 ∧ i = .int .i64 k ∧ s = .int .i64 m) (fun _ i => n - (intOf i).toNat)
    case atStart => exact ⟨0, n, by omega, by omega, by omega, rfl, rfl⟩
    case round =>
      obtain ⟨k, m, hkn, hm0, hm1, rfl, rfl⟩ := hrel
      by_cases hlt : k < n
      · obtain ⟨b, off, rfl, hc⟩ := hA (by omega)
        obtain ⟨c1, c2⟩ := hc k hlt
        have s1 := hK k
        have s2 := hV k
        clear hc hK hV
        go_wp2
        all_goals first
          | (go_ret; exact ⟨⟨_, rfl, fun _ => by first | trivial | omega⟩, rfl⟩)
          | (go_round
             case rel => exact ⟨k + 1, _, by omega, by omega, by omega, by go_num, rfl⟩
             case measure => simp [intOf]; omega)
      · go_wp2
        all_goals
          go_ret
          exact ⟨⟨_, rfl, fun _ => by first | trivial | omega⟩, rfl⟩

set_option maxHeartbeats 1000000 in
theorem bytes11 (w : World) (a : Option Addr) (n c : Nat) (key val probe : ByteArray) (K V : Nat → ByteArray) (hn : n ≤ maxLen) (hk : key.size ≤ maxLen) (hv : val.size ≤ maxLen) (hp : probe.size ≤ maxLen) (hK : ∀ i, (K i).size ≤ maxLen) (hV : ∀ i, (V i).size ≤ maxLen) (hA : LabAt w a n K V) :
    Calls Try.prog 11 #[.slice a n c, .string key, .string val, .string probe] w fun e w' => RetIf (n ≤ 1048576) e ∧ w' = w := by
  unfold maxLen at hn hk hK hV hv hp
  go_enter Try.func11, Try.ntmps11
  go_wp2
  · go_ret
    exact ⟨⟨false, rfl, fun h => by cases h⟩, rfl⟩
  · have hn' : n ≤ 1048576 := by omega
    go_loop [9, 10] (fun s i => ∃ (k : Nat) (m : Int), k ≤ n ∧ 0 ≤ m ∧ m ≤ 1048576 ∧ i = .int .i64 k ∧ s = .int .i64 m) (fun _ i => n - (intOf i).toNat)
    case atStart => exact ⟨0, n, by omega, by omega, by omega, rfl, rfl⟩
    case round =>
      obtain ⟨k, m, hkn, hm0, hm1, rfl, rfl⟩ := hrel
      by_cases hlt : k < n
      · obtain ⟨b, off, rfl, hc⟩ := hA (by omega)
        obtain ⟨c1, c2⟩ := hc k hlt
        have s1 := hK k
        have s2 := hV k
        clear hc hK hV
        go_wp2
        all_goals first
          | (go_ret; exact ⟨⟨_, rfl, fun _ => by first | trivial | omega⟩, rfl⟩)
          | (go_round
             case rel => exact ⟨k + 1, _, by omega, by omega, by omega, by go_num, rfl⟩
             case measure => simp [intOf]; omega)
      · go_wp2
        all_goals
          go_ret
          exact ⟨⟨_, rfl, fun _ => by first | trivial | omega⟩, rfl⟩

/-- It returned a count that is small. -/
def RetSmall (e : Ending) : Prop := ∃ r : Int, e = .returned (.int .i64 r) ∧ 0 ≤ r ∧ r ≤ 2097152

set_option maxHeartbeats 1000000 in
theorem add7 (w : World) (T m : Int) (h0 : 0 ≤ T) (h1 : T ≤ 2097152) (h2 : 0 ≤ m) (h3 : m ≤ 9223372036854775807) :
    Calls Try.prog 7 #[.int .i64 T, .int .i64 m] w fun e w' => RetSmall e ∧ w' = w := by
  go_enter Try.func7, Try.ntmps7
  go_wp2
  all_goals
    go_ret
    exact ⟨⟨_, rfl, by omega, by omega⟩, rfl⟩

set_option maxHeartbeats 1000000 in
theorem labels6 (w : World) (T : Int) (a : Option Addr) (n c : Nat) (K V : Nat → ByteArray) (h0 : 0 ≤ T) (h1 : T ≤ 2097152) (hn : n ≤ 1048576) (hK : ∀ i, (K i).size ≤ maxLen) (hV : ∀ i, (V i).size ≤ maxLen) (hA : LabAt w a n K V) :
    Calls Try.prog 6 #[.int .i64 T, .slice a n c] w fun e w' => RetSmall e ∧ w' = w := by
  unfold maxLen at hK hV
  go_enter Try.func6, Try.ntmps6
  go_wp2_with fail
  go_loop [0, 8] (fun s i => ∃ (k : Nat) (m : Int), k ≤ n ∧ 0 ≤ m ∧ m ≤ 2097152 ∧ i = .int .i64 k ∧ s = .int .i64 m) (fun _ i => n - (intOf i).toNat)
  case atStart => exact ⟨0, T, by omega, by omega, by omega, rfl, rfl⟩
  case round =>
    obtain ⟨k, m, hkn, hm0, hm1, rfl, rfl⟩ := hrel
    by_cases hlt : k < n
    · obtain ⟨b, off, rfl, hc⟩ := hA (by omega)
      obtain ⟨c1, c2⟩ := hc k hlt
      have s1 := hK k
      have s2 := hV k
      clear hc hK hV
      go_wp2_with fail
      refine (add7 _ m 32 hm0 hm1 (by omega) (by omega)).mono ?_
      rintro e w1 ⟨⟨r1, rfl, r10, r11⟩, rfl⟩
      go_wp2_with fail
      refine (add7 _ r1 _ r10 r11 (by omega) (by omega)).mono ?_
      rintro e w1 ⟨⟨r2, rfl, r20, r21⟩, rfl⟩
      go_wp2_with fail
      refine (add7 _ r2 _ r20 r21 (by omega) (by omega)).mono ?_
      rintro e w1 ⟨⟨r3, rfl, r30, r31⟩, rfl⟩
      go_wp2
      · go_ret
        exact ⟨⟨_, rfl, r30, r31⟩, rfl⟩
      · go_round
        case rel => exact ⟨k + 1, r3, by omega, r30, r31, by go_num, rfl⟩
        case measure => simp [intOf]; omega
    · go_wp2
      go_ret
      exact ⟨⟨_, rfl, hm0, hm1⟩, rfl⟩

set_option maxHeartbeats 1000000 in
theorem keys8 (w : World) (a : Option Addr) (n c : Nat) (K V : Nat → ByteArray) (hn : n ≤ 1048576) (hA : LabAt w a n K V) :
    Calls Try.prog 8 #[.slice a n c] w fun e w' => RetIf (Sorted K n) e ∧ ∃ q, w' = w.drewN q := by
  go_enter Try.func8, Try.ntmps8
  go_wp2
  go_loopw [3] (fun i wr => ∃ k q : Nat, (k ≤ n ∨ k ≤ 1) ∧ 1 ≤ k ∧ i = .int .i64 k ∧ (∀ j, j + 1 < k → Op.bytesLess (K j).toList (K (j + 1)).toList = true) ∧ wr = w.drewN q) (fun i _ => n - (intOf i).toNat)
  case atStart => exact ⟨1, 0, by omega, by omega, rfl, fun j hj => by omega, rfl⟩
  case round =>
    obtain ⟨k, q, hkn, hk1, rfl, hall, rfl⟩ := hrel
    by_cases hlt : k < n
    · obtain ⟨b, off, rfl, hc⟩ := hA (by omega)
      obtain ⟨c1, c2⟩ := hc k hlt
      obtain ⟨d1, d2⟩ := hc (k - 1) (by omega)
      obtain ⟨p, rfl⟩ : ∃ p, k = p + 1 := ⟨k - 1, by omega⟩
      rw [Nat.add_sub_cancel] at d1 d2
      have HA : Hid (∀ j, j + 1 < p + 1 → Op.bytesLess (K j).toList (K (j + 1)).toList = true) := hall
      clear hall hc
      go_wp2
      go_quiet (fail)
      cases hb : Op.bytesLess (K p).toList (K (p + 1)).toList
      · go_wp2
        go_ret
        exact ⟨⟨false, rfl, fun h => by cases h⟩, q + nq, by simp⟩
      · go_wp2
        go_roundw
        case rel =>
          refine ⟨p + 2, q + nq, by omega, by omega, by go_num, fun j hj => ?_, by simp⟩
          by_cases e : j = p
          · subst e; exact hb
          · exact HA.out j (by omega)
        case measure => simp [intOf]; omega
    · have HA : Hid (Sorted K n) := sorted_of_steps fun i hi => hall i (by omega)
      clear hall
      go_wp2
      go_ret
      exact ⟨⟨true, rfl, fun _ => HA.out⟩, q, rfl⟩

/-- It returned a bool; false only where no key is the one that is asked for. -/
def RetHas (K : Nat → ByteArray) (n : Nat) (key : ByteArray) (e : Ending) : Prop := ∃ r : Bool, e = .returned (.bool r) ∧ (r = false → ∀ i, i < n → K i ≠ key)

set_option maxHeartbeats 1000000 in
theorem has12 (w : World) (a : Option Addr) (n c : Nat) (key : ByteArray) (K V : Nat → ByteArray) (hn : n ≤ 1048576) (hA : LabAt w a n K V) :
    Calls Try.prog 12 #[.slice a n c, .string key] w fun e w' => RetHas K n key e ∧ w' = w := by
  go_enter Try.func12, Try.ntmps12
  go_wp2
  go_loop [8] (fun i => ∃ k : Nat, k ≤ n ∧ i = .int .i64 k ∧ ∀ j, j < k → K j ≠ key) (fun i => n - (intOf i).toNat)
  case atStart => exact ⟨0, by omega, rfl, fun j hj => by omega⟩
  case round =>
    obtain ⟨k, hkn, rfl, hall⟩ := hrel
    have HA : Hid (∀ j, j < k → K j ≠ key) := hall
    clear hall
    by_cases hlt : k < n
    · obtain ⟨b, off, rfl, hc⟩ := hA (by omega)
      obtain ⟨c1, c2⟩ := hc k hlt
      clear hc
      cases hb : ((K k).toList == key.toList)
      · go_wp2
        go_round
        case rel =>
          refine ⟨k + 1, by omega, by go_num, fun j hj => ?_⟩
          by_cases e : j = k
          · subst e
            intro e
            rw [e] at hb
            simp at hb
          · exact HA.out j (by omega)
        case measure => simp [intOf]; omega
      · go_wp2
        go_ret
        exact ⟨⟨true, rfl, fun h => by cases h⟩, rfl⟩
    · obtain rfl : k = n := by omega
      go_wp2
      go_ret
      exact ⟨⟨false, rfl, fun _ => HA.out⟩, rfl⟩
end Go.Proofs.Qxb6608683a
