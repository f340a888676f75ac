import Derived.Test.Qxb6608683aSmall
import Derived.Test.Qxb6608683aLaws
namespace Go.Proofs.Qxb6608683a
open Go.RowKit
set_option linter.unusedSimpArgs false
set_option linter.unusedVariables false

theorem info35 : (Try.prog.info? 35).map (fun i => (i.zero, i.size, i.bytes)) = some (some (.agg #[.string ByteArray.empty, .string ByteArray.empty]), 2, 32) := by kernel_rfl
theorem size35 : (Try.prog.info? 35).map (·.size) = some 2 := by kernel_rfl

theorem make_labels (n : Nat) (c : Int) (hc : c = n) (hn : n ≤ 4194304) : ∃ M : Array Value, M.size = n * 2 ∧ ∀ w : World, (Instr.makeSlice 28 (.int .i64 c) (.int .i64 c)).run Try.prog w =
      .ok (.slice (some ⟨w.heap.size, 0, none⟩) n n) (w.alloc (.cells M 35)) := by
  subst hc
  obtain ⟨i, hi, hz0, hz1, hz2⟩ := info_parts info35
  refine ⟨madeCells (Value.agg #[.string ByteArray.empty, .string ByteArray.empty]).cells (n * 2), size_madeCells _ _, fun w => ?_⟩
  rw [run_make w 28 35 i _ Try.underlying28 hi hz0 .i64 .i64 n n (by omega) (by omega) (by rw [hz2]; omega) (by omega), hz1]
  simp

theorem eql_nil (w : World) (a : Option Addr) (n c : Nat) : (binOp .eql 22 (.slice a n c) (.slice none 0 0)).run Try.prog w = .ok (.bool a.isNone) w := by
  simp only [binOp]
  simp [Op.equal, Op.maxDepth, Lib.run_equalIn_slice_nil w 9999 22 31 a n c 0 0 Try.underlying22]

/-- Labels of memory that is there are as they were. -/
theorem lab_below {w w' : World} (h : Below w.heap.size w w') {a : Option Addr} {n : Nat} {K V : Nat → ByteArray} (hA : LabAt w a n K V) : LabAt w' a n K V := fun hn => by
  obtain ⟨b, off, ha, hc⟩ := hA hn
  have hb := World.block_lt_of_cell? w _ (hc 0 hn).1
  exact ⟨b, off, ha, fun i hi => ⟨(h.cell (p := ⟨b, off + i * 2, none⟩) hb).trans (hc i hi).1, (h.cell (p := ⟨b, off + i * 2 + 1, none⟩) hb).trans (hc i hi).2⟩⟩

/-- A new slice of labels. -/
def LabPost (n : Nat) (K V : Nat → ByteArray) (w : World) (e : Ending) (w' : World) : Prop :=
  ∃ a' c', e = .returned (.slice a' n c') ∧ LabAt w' a' n K V ∧ Below w.heap.size w w'

/-- The two cells of a label. -/
def labCells (K V : Nat → ByteArray) (i : Nat) : List Value := [.string (K i), .string (V i)]

set_option maxHeartbeats 1000000 in
theorem to9 (w : World) (a : Option Addr) (n c : Nat) (K V : Nat → ByteArray) (hn : n ≤ 1048576) (hA : LabAt w a n K V) :
    Calls Try.prog 9 #[.slice a n c] w fun e w' => LabPost n K V w e w' := by
  obtain ⟨M, hM, hmk⟩ := make_labels n n rfl (by omega)
  cases a with
  | none =>
    obtain rfl : n = 0 := by
      rcases Nat.eq_zero_or_pos n with h | h
      · exact h
      · obtain ⟨b, off, h, _⟩ := hA h; cases h
    have heq := fun w => eql_nil w none 0 c
    simp only [Option.isNone_none] at heq
    clear hmk hM hA
    go_enter Try.func9, Try.ntmps9
    go_wp2
    go_ret
    exact ⟨none, 0, rfl, fun h => absurd h (by omega), Below.refl _ _⟩
  | some x =>
    have heq := fun w => eql_nil w (some x) n c
    simp only [Option.isNone_some] at heq
    go_enter Try.func9, Try.ntmps9
    go_wp2
    go_loopw [12] (fun i wr => ∃ k : Nat, k ≤ n ∧ i = .int .i64 k ∧ wr.there w.heap.size 0 (n * 2) ∧ (∀ j, j < k → wr.rangeAt w.heap.size (j * 2) (labCells K V j)) ∧ Below w.heap.size w wr)
      (fun i _ => n - (intOf i).toNat)
    case atStart => exact ⟨0, by omega, rfl, there_new _ _ _ _ (by omega), fun j hj => by omega, (Below.refl _ _).alloc (Nat.le_refl _) _⟩
    case round =>
      obtain ⟨k, hk, rfl, hth, hrg, hb⟩ := hrel
      by_cases hlt : k < n
      · obtain ⟨b, off, hx, hc⟩ := lab_below hb hA (by omega)
        have hx' : x = ⟨b, off, none⟩ := by simpa using hx
        subst hx'
        obtain ⟨c1, c2⟩ := hc k hlt
        clear hmk hc hx
        go_wp2
        refine wp_region_quiet_tail 14 (by kernel_rfl) (by kernel_rfl) ?_
        simp only [List.take_succ_cons, List.take_zero, List.drop_succ_cons, List.drop_zero]
        iterate 14 go_big_quiet_step (fail)
        refine wpQuiet_nil ?_
        refine wpList_store_named rfl 35 _ _ rfl w.heap.size (k * 2) (labCells K V k) rfl rfl ?h1 size35 ?h3 ?_
        case h1 =>
          rw [World.there_drew]
          intro j hj
          have hj2 : j < 2 := hj
          have := hth (k * 2 + j) (by omega)
          simpa using this
        case h3 =>
          intro v hv
          simp only [labCells, List.mem_cons, List.not_mem_nil, or_false] at hv
          rcases hv with rfl | rfl <;> rfl
        intro W HW
        have hthk : wr.drew.there w.heap.size (k * 2) (labCells K V k).length := by
          rw [World.there_drew]
          intro j hj
          have hj2 : j < 2 := hj
          have := hth (k * 2 + j) (by omega)
          simpa using this
        have R : W.there w.heap.size 0 (n * 2) ∧ (∀ j, j < k + 1 → W.rangeAt w.heap.size (j * 2) (labCells K V j)) ∧ Below w.heap.size w W := by
          rw [HW.out]
          refine ⟨World.there_setCells ((World.there_drew _ _ _ _).2 hth) _ _ _, fun j hj => ?_, Below.setCells (Nat.le_refl _) _ _ _ hb.drew⟩
          by_cases e : j = k
          · subst e; exact World.rangeAt_setCells_same _ _ _ _ hthk
          · refine World.rangeAt_setCells_apart ((World.rangeAt_drew _ _ _ _).2 (hrg j (by omega))) _ _ _ ?_
            have : (labCells K V j).length = 2 := rfl
            omega
        clear hth hrg hb HW hthk c1 c2
        refine wpList_nil ?_
        simp only [Act.put]
        go_wp2
        go_roundw
        case rel => exact ⟨k + 1, by omega, by go_num, R.1, R.2.1, R.2.2⟩
        case measure => simp [intOf]; omega
      · go_wp2
        go_ret
        refine ⟨_, n, rfl, fun _ => ⟨_, _, rfl, fun i hi => ?_⟩, hb⟩
        have := hrg i (by omega)
        exact ⟨by simpa using this 0 _ rfl, by simpa using this 1 _ rfl⟩
end Go.Proofs.Qxb6608683a
