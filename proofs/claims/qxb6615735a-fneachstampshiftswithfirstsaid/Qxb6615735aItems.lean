import Derived.Test.Qxb6615735aRows
import Derived.Test.Qxb6615735aLaws
import Derived.WalkKit
import Derived.WalkSpells
import Derived.WalkLawsBesides
namespace Go.Proofs.Qxb6615735a
open Go.RowKit

theorem build_item_lit (c0 c1 c2 c3 c4 c5 c6 c7 c8 c9 c10 c11 c12 c13 c14 c15 c16 c17 c18 c19 c20 c21 c22 c23 c24 c25 c26 c27 c28 c29 c30 c31 : Value) (s : Int) (w : World) :
    (Instr.build 42 #[(0, .agg #[c0, c1, c2, c3, c4, c5, c6, c7, c8, c9, c10, c11, c12, c13, c14, c15, c16, c17, c18, c19, c20, c21, c22, c23, c24, c25, c26, c27, c28, c29, c30, c31]), (1, .int .u64 s)]).run Try.prog w = .ok (.agg #[c0, c1, c2, c3, c4, c5, c6, c7, c8, c9, c10, c11, c12, c13, c14, c15, c16, c17, c18, c19, c20, c21, c22, c23, c24, c25, c26, c27, c28, c29, c30, c31, .int .u64 s]) w := by kernel_rfl

theorem build_item (cs : List Value) (s : Int) (hcs : cs.length = 32) (w : World) :
    (Instr.build 42 #[(0, .agg cs.toArray), (1, .int .u64 s)]).run Try.prog w = .ok (.agg (cs ++ [Value.int .u64 s]).toArray) w := by
  match cs, hcs with
  | [c0, c1, c2, c3, c4, c5, c6, c7, c8, c9, c10, c11, c12, c13, c14, c15, c16, c17, c18, c19, c20, c21, c22, c23, c24, c25, c26, c27, c28, c29, c30, c31], _ => exact build_item_lit c0 c1 c2 c3 c4 c5 c6 c7 c8 c9 c10 c11 c12 c13 c14 c15 c16 c17 c18 c19 c20 c21 c22 c23 c24 c25 c26 c27 c28 c29 c30 c31 s w

theorem info42 : (Try.prog.info? 42).map (fun i => (i.zero, i.size, i.bytes)) = some (some (.agg (List.replicate 32 (Value.int .u8 0) ++ [Value.int .u64 0]).toArray), 33, 40) := by kernel_rfl

theorem make_items (n : Nat) (c : Int) (hc : c = n) (hn : n ≤ 32768) : ∃ M : Array Value, M.size = n * 33 ∧ ∀ w : World, (Instr.makeSlice 31 (.int .i64 c) (.int .i64 c)).run Try.prog w =
      .ok (.slice (some ⟨w.heap.size, 0, none⟩) n n) (w.alloc (.cells M 42)) := by
  subst hc
  obtain ⟨i, hi, hz0, hz1, hz2⟩ := info_parts info42
  refine ⟨madeCells (Value.agg (List.replicate 32 (Value.int .u8 0) ++ [Value.int .u64 0]).toArray).cells (n * 33), size_madeCells _ _, fun w => ?_⟩
  rw [run_make w 31 42 i _ Try.underlying31 hi hz0 .i64 .i64 n n (by omega) (by omega) (by rw [hz2]; omega) (by omega), hz1]
  simp

/-- The cells of item j. -/
def itemCells (I : Nat → List Value) (S : Nat → Int) (j : Nat) : List Value := I j ++ [Value.int .u64 (S j)]

set_option maxHeartbeats 400000 in
theorem items7 (a0 a1 : Option Addr) (n0 c0 n1 c1 : Nat) (f t : Nat) (I : Nat → List Value) (S : Nat → Int) (w : World) (hft : f ≤ t) (ht0 : t ≤ n0) (ht1 : t ≤ n1) (ht : t ≤ 32768)
    (hI : ArrAt w a0 n0 32 I) (hS : ArrAt w a1 n1 1 (fun i => [.int .u64 (S i)])) (h1 : ∀ i, i < n0 → ∀ v ∈ I i, v.oneCell' = true) :
    Calls Try.prog 7 #[.slice a0 n0 c0, .slice a1 n1 c1, .int .i64 f, .int .i64 t] w fun e w' =>
      e = .returned (.slice (some ⟨w.heap.size, 0, none⟩) (t - f) (t - f)) ∧ ArrAt w' (some ⟨w.heap.size, 0, none⟩) (t - f) 33 (fun j => itemCells I S (f + j)) ∧ Below w.heap.size w w' ∧ w.heap.size < w'.heap.size := by
  obtain ⟨M, hM, hmk⟩ := make_items (t - f) ((t : Int) - f) (by omega) (by omega)
  go_enter Try.func7, Try.ntmps7
  go_wp2
  go_loopw [10] (fun i wr => ∃ k : Nat, f ≤ k ∧ k ≤ t ∧ i = .int .i64 k ∧ wr.there w.heap.size 0 ((t - f) * 33) ∧ (∀ j, j < k - f → wr.rangeAt w.heap.size (j * 33) (itemCells I S (f + j))) ∧ Below w.heap.size w wr ∧ w.heap.size < wr.heap.size)
    (fun i _ => t - (intOf i).toNat)
  case atStart =>
    refine ⟨f, by omega, by omega, rfl, there_new _ _ _ _ (by omega), fun j hj => by omega, (Below.refl _ _).alloc (Nat.le_refl _) _, by simp⟩
  case round =>
    obtain ⟨k, hfk, hkt, rfl, hth, hrg, hb, hz⟩ := hrel
    by_cases hlt : k < t
    · obtain ⟨b0, o0, rfl, hI'⟩ := hI (by omega)
      obtain ⟨b1, o1, rfl, hS'⟩ := hS (by omega)
      have hck := hI' k (by omega)
      have hrk : wr.rangeAt b0 (o0 + k * 32) (I k) := range_below hb (range_lt hck.2 (by omega)) hck.2
      have hsk : wr.cell? ⟨b1, o1 + k, none⟩ = some (.int .u64 (S k)) := by
        have := range_below hb (range_lt (hS' k (by omega)).2 (by simp)) (hS' k (by omega)).2 0 _ rfl
        simpa using this
      go_wp2
      refine wp_region_quiet_tail 14 (by kernel_rfl) (by kernel_rfl) ?_
      simp only [List.take_succ_cons, List.take_zero, List.drop_succ_cons, List.drop_zero]
      iterate 7 go_big_quiet_step (fail)
      refine wpQuiet_load_mid rfl 35 _ rfl b0 (o0 + k * 32) rfl (I k) _ (fun x hx => ?hr) Try.underlying35 rfl ?hi ?_
      case hr => subst hx; exact (World.rangeAt_drew _ _ _ _).2 hrk
      case hi => rw [hck.1]; kernel_rfl
      simp only [Act.put, List.setIfInBounds_toArray, List.set_cons_succ, List.set_cons_zero]
      iterate 4 go_big_quiet_step (fail)
      refine wpQuiet_build rfl 42 _ rfl (.agg (itemCells I S k).toArray) [(0, .agg (I k).toArray), (1, .int .u64 (S k))] rfl (fun x _ => build_item (I k) (S k) hck.1 x) ?_
      simp only [Act.put, List.setIfInBounds_toArray, List.set_cons_succ, List.set_cons_zero]
      go_big_quiet_step (fail)
      refine wpQuiet_nil ?_
      have hlen : (itemCells I S k).length = 33 := by simp [itemCells, hck.1]
      refine wpList_store_mid rfl 42 _ _ rfl w.heap.size ((k - f) * 33) (itemCells I S k).toArray rfl rfl ?h1 ?h2 ?h3 ?_
      case h1 =>
        rw [World.there_drew]
        intro j hj
        simp only [List.size_toArray, hlen] at hj
        have := hth ((k - f) * 33 + j) (by omega)
        simpa using this
      case h2 => simp only [List.size_toArray, hlen]; kernel_rfl
      case h3 =>
        refine all_oneCell_toArray fun v hv => ?_
        simp only [itemCells, List.mem_append, List.mem_singleton] at hv
        rcases hv with hv | rfl
        · exact h1 k (by omega) v hv
        · rfl
      refine wpList_nil ?_
      simp only [Act.put]
      have R : (wr.drew.setCells w.heap.size ((k - f) * 33) (itemCells I S k).toArray.toList).there w.heap.size 0 ((t - f) * 33) ∧
          (∀ j, j < k + 1 - f → (wr.drew.setCells w.heap.size ((k - f) * 33) (itemCells I S k).toArray.toList).rangeAt w.heap.size (j * 33) (itemCells I S (f + j))) ∧
          Below w.heap.size w (wr.drew.setCells w.heap.size ((k - f) * 33) (itemCells I S k).toArray.toList) ∧ w.heap.size < (wr.drew.setCells w.heap.size ((k - f) * 33) (itemCells I S k).toArray.toList).heap.size := by
        refine ⟨World.there_setCells ((World.there_drew _ _ _ _).2 hth) _ _ _, fun j hj => ?_, Below.setCells (Nat.le_refl _) _ _ _ hb.drew, by rw [size_setCells]; exact hz⟩
        by_cases hjk : j = k - f
        · subst hjk
          rw [show f + (k - f) = k by omega]
          refine World.rangeAt_setCells_same _ _ _ _ ?_
          rw [World.there_drew]
          intro j hj
          simp only [hlen] at hj
          have := hth ((k - f) * 33 + j) (by omega)
          simpa using this
        · refine World.rangeAt_setCells_apart ((World.rangeAt_drew _ _ _ _).2 (hrg j (by omega))) _ _ _ ?_
          have : (itemCells I S (f + j)).length = 33 := by simp [itemCells, (hI' (f + j) (by omega)).1]
          omega
      generalize wr.drew.setCells w.heap.size ((k - f) * 33) (itemCells I S k).toArray.toList = W at R ⊢
      clear hth hrg hb hz hI' hS' hrk hsk
      go_wp2
      go_roundw
      case rel => exact ⟨k + 1, by omega, by omega, by go_num, R.1, R.2.1, R.2.2.1, R.2.2.2⟩
      case measure => simp [intOf]; omega
    · go_wp2
      go_ret
      refine ⟨rfl, fun _ => ⟨_, _, rfl, fun i hi => ⟨?_, ?_⟩⟩, hb, hz⟩
      · have := (hI (by omega))
        obtain ⟨b0, o0, rfl, hI'⟩ := this
        simp [itemCells, (hI' (f + i) (by omega)).1]
      · have := hrg i (by omega)
        simpa using this
end Go.Proofs.Qxb6615735a
