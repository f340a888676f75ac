import Derived.Test.Qxb6615735aDoorUv
import Derived.StillTail
import Derived.Deep.MidRow
namespace Go.Proofs.Qxb6615735aDoor
open Go.RowKit
set_option linter.unusedSimpArgs false
set_option linter.unusedVariables false

set_option maxHeartbeats 1000000 in
theorem same12 (w : World) (a a' : Option Addr) (n c c' : Nat) (Z Y : Nat → Nat) (hn : n ≤ 1048576) (hA : RowAt w a n Z) (hB : RowAt w a' n Y) (he : ∀ i, i < n → Z i = Y i) :
    Calls Tryd.prog 12 #[.slice a n c, .slice a' n c'] w fun e w' => e = .returned (.bool true) ∧ ∃ q, w' = w.drewN q := by
  have hne : ((n : Int) != (n : Int)) = false := by simp
  go_enter Tryd.func12, Tryd.ntmps12
  go_wp2
  go_loopw [5] (fun i wr => ∃ k q : Nat, k ≤ n ∧ i = .int .i64 k ∧ wr = w.drewN q) (fun i _ => n - (intOf i).toNat)
  case atStart => exact ⟨0, 0, by omega, rfl, rfl⟩
  case round =>
    obtain ⟨k, q, hk, rfl, rfl⟩ := hrel
    by_cases hlt : k < n
    · obtain ⟨b, off, rfl, hc⟩ := hA (by omega)
      obtain ⟨b', off', rfl, hc'⟩ := hB (by omega)
      have h1 := hc k hlt
      have h2 := hc' k hlt
      rw [← he k hlt] at h2
      have hv : (((Z k : Nat) : Int) != ((Z k : Nat) : Int)) = false := by simp
      clear hc hc' he
      go_wp2
      go_quiet (fail)
      go_wp2
      go_roundw
      case rel => exact ⟨k + 1, q + nq, by omega, by go_num, by simp⟩
      case measure => simp [intOf]; omega
    · go_wp2
      go_ret
      exact ⟨rfl, q, rfl⟩

/-- It returned a bool. -/
def RetBool (e : Ending) : Prop := ∃ r, e = .returned (.bool r)
theorem RetBool.mk (r : Bool) : RetBool (.returned (.bool r)) := ⟨r, rfl⟩

set_option maxHeartbeats 1000000 in
theorem bytes5 (w : World) (a : Option Addr) (n c : Nat) (n1 n2 : Int) (hn : n ≤ maxLen) :
    Calls Tryd.prog 5 #[.slice a n c, .int .i64 n1, .int .i64 n2] w fun e w' => RetBool e ∧ w' = w := by
  unfold maxLen at hn
  go_enter Tryd.func5, Tryd.ntmps5
  go_wp2
  all_goals
    go_ret
    exact ⟨RetBool.mk _, rfl⟩

set_option maxHeartbeats 1000000 in
theorem bytes13 (w : World) (a a' : Option Addr) (n c n' c' : Nat) (n1 : Int) (hn : n ≤ maxLen) (hn' : n' ≤ maxLen) :
    Calls Tryd.prog 13 #[.slice a n c, .slice a' n' c', .int .i64 n1] w fun e w' => RetBool e ∧ w' = w := by
  unfold maxLen at hn hn'
  go_enter Tryd.func13, Tryd.ntmps13
  go_wp2
  all_goals
    go_ret
    exact ⟨RetBool.mk _, rfl⟩

/-- What a clone hands back: the bytes again. -/
def ClonePost (n : Nat) (Z : Nat → Nat) (w : World) (e : Ending) (w' : World) : Prop :=
  ∃ a' c', e = .returned (.slice a' n c') ∧ n ≤ c' ∧ RowAt w' a' n Z ∧ Below w.heap.size w w'

theorem info5 : (Tryd.prog.info? 5).map (fun i => (i.zero, i.size, i.bytes)) = some (some (.int .u8 0), 1, 1) := by kernel_rfl

theorem make_bytes (n : Nat) (c : Int) (hc : c = n) (hn : n ≤ 4194304) : ∃ M : Array Value, M.size = n ∧ ∀ w : World, (Instr.makeSlice 22 (.int .i64 c) (.int .i64 c)).run Tryd.prog w =
      .ok (.slice (some ⟨w.heap.size, 0, none⟩) n n) (w.alloc (.cells M 5)) := by
  subst hc
  obtain ⟨i, hi, hz0, hz1, hz2⟩ := info_parts info5
  refine ⟨madeCells (Value.int .u8 0).cells n, size_madeCells _ _, fun w => ?_⟩
  rw [run_make w 22 5 i _ Tryd.underlying22 hi hz0 .i64 .i64 n n (by omega) (by omega) (by rw [hz2]; omega) (by omega), hz1]
  simp

theorem eql_nil (w : World) (a : Option Addr) (n c : Nat) : (binOp .eql 22 (.slice a n c) (.slice none 0 0)).run Tryd.prog w = .ok (.bool a.isNone) w := by
  simp only [binOp]
  simp [Op.equal, Op.maxDepth, Lib.run_equalIn_slice_nil w 9999 22 5 a n c 0 0 Tryd.underlying22]

theorem there_new (w : World) (M : Array Value) (t : TypeId) (n : Nat) (h : n ≤ M.size) : (w.alloc (.cells M t)).there w.heap.size 0 n := fun j hj => by
  have hg : (w.alloc (.cells M t)).heap[w.heap.size]? = some (.cells M t (0, 0)) := heap_alloc_new w _
  refine ⟨?_, frozen_of_row _ _ _ _ _ hg⟩
  rw [cell_of_row _ _ _ _ _ _ hg]
  simp
  omega

theorem isSome_setCell (w : World) (x y : Addr) (v : Value) (h : (w.cell? y).isSome = true) : ((w.setCell x v).cell? y).isSome = true := by
  obtain ⟨u, hu⟩ := Option.isSome_iff_exists.1 h
  by_cases e : x = y
  · subst e; rw [World.cell?_setCell_same _ _ _ hu]; rfl
  · rw [World.cell?_setCell_other _ _ _ _ e, hu]; rfl

theorem there_setCell {w : World} {b o n : Nat} (h : w.there b o n) (x : Addr) (v : Value) : (w.setCell x v).there b o n := fun j hj =>
  ⟨isSome_setCell _ _ _ _ (h j hj).1, by rw [World.frozen?_setCell]; exact (h j hj).2⟩

theorem size_setCell (w : World) (a : Addr) (v : Value) : (w.setCell a v).heap.size = w.heap.size := by simp [World.setCell]

/-- A row below B is as it was. -/
theorem row_below {w w' : World} (h : Below w.heap.size w w') {a : Option Addr} {n : Nat} {Z : Nat → Nat} (hA : RowAt w a n Z) : RowAt w' a n Z := fun hn => by
  obtain ⟨b, off, ha, hc⟩ := hA hn
  have hb := World.block_lt_of_cell? w _ (hc 0 hn)
  exact ⟨b, off, ha, fun i hi => (h.cell (p := ⟨b, off + i, none⟩) hb).trans (hc i hi)⟩

set_option maxHeartbeats 1000000 in
theorem clone6 (w : World) (a : Option Addr) (n c : Nat) (Z : Nat → Nat) (hn : n ≤ 1048576) (hA : RowAt w a n Z) (h0 : a = none → n = 0) :
    Calls Tryd.prog 6 #[.slice a n c] w fun e w' => ClonePost n Z w e w' := by
  obtain ⟨M, hM, hmk⟩ := make_bytes n n rfl (by omega)
  cases a with
  | none =>
    obtain rfl := h0 rfl
    have heq := fun w => eql_nil w none 0 c
    simp only [Option.isNone_none] at heq
    clear hmk hM hA h0
    go_enter Tryd.func6, Tryd.ntmps6
    go_wp2
    go_ret
    exact ⟨none, 0, rfl, Nat.le_refl _, fun h => absurd h (by omega), Below.refl _ _⟩
  | some x =>
    have heq := fun w => eql_nil w (some x) n c
    simp only [Option.isNone_some] at heq
    go_enter Tryd.func6, Tryd.ntmps6
    go_wp2
    go_loopw [4] (fun i wr => ∃ k : Nat, k ≤ n ∧ i = .int .i64 k ∧ wr.there w.heap.size 0 n ∧ (∀ j, j < k → wr.cell? ⟨w.heap.size, j, none⟩ = some (.int .u8 ((Z j : Nat) : Int))) ∧ Below w.heap.size w wr)
      (fun i _ => n - (intOf i).toNat)
    case atStart => exact ⟨0, by omega, rfl, there_new _ _ _ _ (by omega), fun j hj => by omega, (Below.refl _ _).alloc (Nat.le_refl _) _⟩
    case round =>
      obtain ⟨k, hk, rfl, hth, hcs, hb⟩ := hrel
      by_cases hlt : k < n
      · obtain ⟨b, off, hx, hc⟩ := hA (by omega)
        have hx' : x = ⟨b, off, none⟩ := by simpa using hx
        subst hx'
        have hbl := World.block_lt_of_cell? w _ (hc k hlt)
        have hck : wr.cell? ⟨b, off + k, none⟩ = some (.int .u8 ((Z k : Nat) : Int)) := (hb.cell (p := ⟨b, off + k, none⟩) hbl).trans (hc k hlt)
        obtain ⟨hs, hf⟩ := hth k hlt
        obtain ⟨u, hu⟩ := Option.isSome_iff_exists.1 hs
        simp only [Nat.zero_add] at hf hu
        have R : (wr.setCell ⟨w.heap.size, k, none⟩ (.int .u8 ((Z k : Nat) : Int))).there w.heap.size 0 n ∧
            (∀ j, j < k + 1 → (wr.setCell ⟨w.heap.size, k, none⟩ (.int .u8 ((Z k : Nat) : Int))).cell? ⟨w.heap.size, j, none⟩ = some (.int .u8 ((Z j : Nat) : Int))) ∧
            Below w.heap.size w (wr.setCell ⟨w.heap.size, k, none⟩ (.int .u8 ((Z k : Nat) : Int))) := by
          refine ⟨there_setCell hth _ _, fun j hj => ?_, hb.setCell (p := ⟨w.heap.size, k, none⟩) (Nat.le_refl _) _⟩
          by_cases e : j = k
          · subst e; exact World.cell?_setCell_same _ _ _ hu
          · rw [World.cell?_setCell_other _ _ _ _ (by intro h; injection h with _ h; omega)]; exact hcs j (by omega)
        have HR : Hid _ := R
        clear R hth hcs hb hc hA hs hmk
        go_wp2
        go_roundw
        case rel => exact ⟨k + 1, by omega, by go_num, HR.out.1, HR.out.2.1, HR.out.2.2⟩
        case measure => simp [intOf]; omega
      · go_wp2
        go_ret
        exact ⟨_, n, rfl, Nat.le_refl _, fun _ => ⟨_, _, rfl, fun i hi => by simpa using hcs i (by omega)⟩, hb⟩

/-- a followed by b. -/
def catZ (n : Nat) (Z Y : Nat → Nat) (i : Nat) : Nat := if i < n then Z i else Y (i - n)

/-- The first k of n new bytes have been written. -/
def Filled (w wr : World) (n : Nat) (F : Nat → Nat) (k : Nat) : Prop :=
  wr.there w.heap.size 0 n ∧ (∀ j, j < k → wr.cell? ⟨w.heap.size, j, none⟩ = some (.int .u8 ((F j : Nat) : Int))) ∧ Below w.heap.size w wr

theorem Filled.at {w wr : World} {n k : Nat} {F : Nat → Nat} (h : Filled w wr n F k) (hk : k < n) : (∃ u, wr.cell? ⟨w.heap.size, k, none⟩ = some u) ∧ wr.frozen? ⟨w.heap.size, k, none⟩ = false := by
  obtain ⟨hs, hf⟩ := h.1 k hk
  obtain ⟨u, hu⟩ := Option.isSome_iff_exists.1 hs
  simp only [Nat.zero_add] at hf hu
  exact ⟨⟨u, hu⟩, hf⟩

theorem Filled.put {w wr : World} {n k : Nat} {F : Nat → Nat} (h : Filled w wr n F k) (hk : k < n) : Filled w (wr.setCell ⟨w.heap.size, k, none⟩ (.int .u8 ((F k : Nat) : Int))) n F (k + 1) := by
  obtain ⟨⟨u, hu⟩, _⟩ := h.at hk
  refine ⟨there_setCell h.1 _ _, fun j hj => ?_, h.2.2.setCell (p := ⟨w.heap.size, k, none⟩) (Nat.le_refl _) _⟩
  by_cases e : j = k
  · subst e; exact World.cell?_setCell_same _ _ _ hu
  · rw [World.cell?_setCell_other _ _ _ _ (by intro h; injection h with _ h; omega)]; exact h.2.1 j (by omega)

set_option maxHeartbeats 1000000 in
theorem concat14 (w : World) (a a' : Option Addr) (n c n' c' : Nat) (Z Y : Nat → Nat) (hn : n ≤ 1048576) (hn' : n' ≤ 1048576) (hA : RowAt w a n Z) (hB : RowAt w a' n' Y) :
    Calls Tryd.prog 14 #[.slice a n c, .slice a' n' c'] w fun e w' => ClonePost (n + n') (catZ n Z Y) w e w' := by
  obtain ⟨M, hM, hmk⟩ := make_bytes (n + n') ((n : Int) + n') (by omega) (by omega)
  go_enter Tryd.func14, Tryd.ntmps14
  go_wp2
  clear hmk
  go_loopw [6] (fun i wr => ∃ k : Nat, k ≤ n ∧ i = .int .i64 k ∧ Filled w wr (n + n') (catZ n Z Y) k) (fun i _ => n - (intOf i).toNat)
  case atStart => exact ⟨0, by omega, rfl, there_new _ _ _ _ (by omega), fun j hj => by omega, (Below.refl _ _).alloc (Nat.le_refl _) _⟩
  case round =>
    obtain ⟨k, hk, rfl, hF⟩ := hrel
    by_cases hlt : k < n
    · obtain ⟨b, off, rfl, hc⟩ := hA (by omega)
      have hbl := World.block_lt_of_cell? w _ (hc k hlt)
      have hck : wr.cell? ⟨b, off + k, none⟩ = some (.int .u8 ((Z k : Nat) : Int)) := (hF.2.2.cell (p := ⟨b, off + k, none⟩) hbl).trans (hc k hlt)
      obtain ⟨⟨u, hu⟩, hf⟩ := hF.at (show k < n + n' by omega)
      have R := hF.put (show k < n + n' by omega)
      rw [show catZ n Z Y k = Z k by simp [catZ, hlt]] at R
      clear hF hc hA
      go_wp2
      go_roundw
      case rel => exact ⟨k + 1, by omega, by go_num, R⟩
      case measure => simp [intOf]; omega
    · obtain rfl : k = n := by omega
      go_wp2
      clear hlt hk
      go_loopw [7] (fun i wr => ∃ y : Nat, y ≤ n' ∧ i = .int .i64 y ∧ Filled w wr (k + n') (catZ k Z Y) (k + y)) (fun i _ => n' - (intOf i).toNat)
      case atStart => exact ⟨0, by omega, rfl, hF⟩
      case round =>
        clear hF
        obtain ⟨y, hy, rfl, hF⟩ := hrel
        by_cases hlt : y < n'
        · obtain ⟨b, off, rfl, hc⟩ := hB (by omega)
          have hbl := World.block_lt_of_cell? w _ (hc y hlt)
          have hck : wr.cell? ⟨b, off + y, none⟩ = some (.int .u8 ((Y y : Nat) : Int)) := (hF.2.2.cell (p := ⟨b, off + y, none⟩) hbl).trans (hc y hlt)
          obtain ⟨⟨u, hu⟩, hf⟩ := hF.at (show k + y < k + n' by omega)
          have R := hF.put (show k + y < k + n' by omega)
          rw [show catZ k Z Y (k + y) = Y y by rw [catZ, if_neg (by omega), Nat.add_sub_cancel_left]] at R
          clear hF hc hB
          go_wp2
          go_roundw
          case rel => exact ⟨y + 1, by omega, by go_num, R⟩
          case measure => simp [intOf]; omega
        · obtain rfl : y = n' := by omega
          go_wp2
          go_ret
          exact ⟨_, _, rfl, Nat.le_refl _, fun _ => ⟨_, _, rfl, fun i hi => by simpa using hF.2.1 i (by omega)⟩, hF.2.2⟩
end Go.Proofs.Qxb6615735aDoor
