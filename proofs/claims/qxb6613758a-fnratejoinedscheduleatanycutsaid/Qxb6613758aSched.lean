import Derived.Test.Qxb6613758aRuns
namespace Go.Proofs.Qxb6613758a
open Go.RowKit
set_option linter.unusedSimpArgs false
set_option linter.unusedVariables false

/-- A new schedule. -/
def SchPost (n : Nat) (D E : Nat → Int) (w : World) (e : Ending) (w' : World) : Prop :=
  ∃ a' c', e = .returned (.slice a' n c') ∧ SchAt w' a' n D E ∧ Below w.heap.size w w'

theorem own_below {w w' : World} {base e size n : Nat} {v : Value} {xs : List Value} (h : w.ownsRow base e size v n xs) (hB : Below w.heap.size w w') : w'.ownsRow base e size v n xs := by
  refine ⟨h.1, ?_⟩
  rcases h.2 with h0 | ⟨g, cap, cur, hv, hg, hh, hr⟩
  · exact .inl h0
  · have hlt : g < w.heap.size := by
      rcases Nat.lt_or_ge g w.heap.size with hl | hl
      · exact hl
      · rw [Array.getElem?_eq_none hl] at hh; cases hh
    exact .inr ⟨g, cap, cur, hv, hg, (hB.block g hlt).trans hh, hr⟩

set_option maxHeartbeats 1000000 in
theorem build6 (w : World) (a : Option Addr) (n c : Nat) (D E : Nat → Int) (hn : n ≤ 65536) (hA : TierAt w a n D E) :
    Calls Try.prog 6 #[.slice a n c] w fun e w' => SchPost n D E w e w' := by
  obtain ⟨i38, hi38, hz38, hs38, hb38⟩ := info_parts info38
  obtain ⟨w4, hmk, how, hgr⟩ := make_row w n hn
  have hB5 : Below w.heap.size w w4 := ⟨hgr.os, hgr.tape, hgr.output, hgr.size, fun k hk => hgr.block k hk (fun h => by cases h)⟩
  clear hgr
  have HO : Hid (w4.ownsRow w.heap.size 38 3 (.slice (some ⟨w.heap.size, 0, none⟩) 0 n) 0 [] ∧ Below w.heap.size w w4) := ⟨how, hB5⟩
  clear how hB5
  go_enter Try.func6, Try.ntmps6
  go_wp2_with fail
  go_loopw [3, 4] (fun s i wr => ∃ (k : Nat) (xs : List Value), k ≤ n ∧ i = .int .i64 k ∧ wr.ownsRow w.heap.size 38 3 s k xs ∧ IsFlat D E k xs ∧ Below w.heap.size w wr) (fun _ i _ => n - (intOf i).toNat)
  case atStart => exact ⟨0, [], by omega, rfl, HO.out.1, fun i hi => by omega, HO.out.2⟩
  case round =>
    clear hmk
    obtain ⟨k, xs, hkn, rfl, how, hfl, hBw⟩ := hrel
    by_cases hlt : k < n
    · obtain ⟨b, off, hab, hc⟩ := tier_below hBw hA (by omega)
      subst hab
      obtain ⟨c1, c2⟩ := hc k (by omega)
      clear hc
      go_wp2_with fail
      refine wp_region_noPanic (wp_region_held_tail 11 (fun x => x.cell? ⟨b, off + k * 2, none⟩ = some (.int .i64 (D k)) ∧ x.cell? ⟨b, off + k * 2 + 1, none⟩ = some (.int .i32 (E k))) (by kernel_rfl) (by kernel_rfl) ⟨by simpa using c1, by simpa using c2⟩ (fun _ _ _ _ _ h => h) ?_)
      simp only [List.take_succ_cons, List.take_zero, List.drop_succ_cons, List.drop_zero]
      refine wpQuiet_mov rfl u3 rfl ?_
      simp only [Act.put, List.setIfInBounds_toArray, List.set_cons_succ, List.set_cons_zero]
      refine wpQuiet_mov rfl (.slice (some ⟨b, off, none⟩) n c) rfl ?_
      simp only [Act.put, List.setIfInBounds_toArray, List.set_cons_succ, List.set_cons_zero]
      refine wpQuiet_mov rfl (.int .i64 k) rfl ?_
      simp only [Act.put, List.setIfInBounds_toArray, List.set_cons_succ, List.set_cons_zero]
      refine wpQuiet_val rfl (Instr.indexAt 22 (.slice (some ⟨b, off, none⟩) n c) (.int .i64 k)) rfl _ (fun x _ => idx22 x b off n c k (by omega) hn) ?_
      simp only [Act.put, List.setIfInBounds_toArray, List.set_cons_succ, List.set_cons_zero]
      refine wpQuiet_val rfl (Instr.fieldAt 31 (.pointer (some ⟨b, off + k * 2, none⟩)) 0) rfl _ (fun x _ => fld0 x b _) ?_
      simp only [Act.put, List.setIfInBounds_toArray, List.set_cons_succ, List.set_cons_zero]
      refine wpQuiet_val rfl (Instr.loadAt 3 (.pointer (some ⟨b, off + k * 2, none⟩))) rfl _ (fun x hx => load3 x b _ _ hx.1) ?_
      simp only [Act.put, List.setIfInBounds_toArray, List.set_cons_succ, List.set_cons_zero]
      refine wpQuiet_mov rfl (.slice (some ⟨b, off, none⟩) n c) rfl ?_
      simp only [Act.put, List.setIfInBounds_toArray, List.set_cons_succ, List.set_cons_zero]
      refine wpQuiet_mov rfl (.int .i64 k) rfl ?_
      simp only [Act.put, List.setIfInBounds_toArray, List.set_cons_succ, List.set_cons_zero]
      refine wpQuiet_val rfl (Instr.indexAt 22 (.slice (some ⟨b, off, none⟩) n c) (.int .i64 k)) rfl _ (fun x _ => idx22 x b off n c k (by omega) hn) ?_
      simp only [Act.put, List.setIfInBounds_toArray, List.set_cons_succ, List.set_cons_zero]
      refine wpQuiet_val rfl (Instr.fieldAt 31 (.pointer (some ⟨b, off + k * 2, none⟩)) 1) rfl _ (fun x _ => fld1 x b _) ?_
      simp only [Act.put, List.setIfInBounds_toArray, List.set_cons_succ, List.set_cons_zero]
      refine wpQuiet_val rfl (Instr.loadAt 21 (.pointer (some ⟨b, off + k * 2 + 1, none⟩))) rfl _ (fun x hx => load21 x b _ _ hx.2) ?_
      simp only [Act.put, List.setIfInBounds_toArray, List.set_cons_succ, List.set_cons_zero]
      refine wpQuiet_nil ?_
      have hS1 : ∀ W : World, Below w.heap.size w W → W.cell? ⟨b, off + k * 2, none⟩ = some (.int .i64 (D k)) ∧ W.cell? ⟨b, off + k * 2 + 1, none⟩ = some (.int .i32 (E k)) := fun W hW => by
        obtain ⟨b', off', e, hc⟩ := tier_below hW hA (by omega)
        simp only [Option.some.injEq, Addr.mk.injEq, and_true] at e
        obtain ⟨rfl, rfl⟩ := e
        exact hc k (by omega)
      refine wpListS_call rfl 11 #[.int .i64 (D k), .int .i32 (E k)] (by simp [execOp, resolve, invoke, Act.eval, go_sem]) ?_
      refine (tier11 _ (D k) (E k)).mono ?_
      rintro e w5 ⟨q, rfl, hB5⟩
      have hszw : w.heap.size ≤ wr.heap.size := hBw.size
      have hBw5 : Below w.heap.size w w5 := hBw.drew.trans (hB5.mono (by simpa using hszw))
      refine ⟨_, rfl, hS1 _ hBw5, ?_⟩
      simp only [Act.put, List.setIfInBounds_toArray, List.set_cons_succ, List.set_cons_zero]
      have how5 : w5.ownsRow w.heap.size 38 3 u3 k xs := own_below (own_drew how) hB5
      refine wpListS_buildSlice rfl 25 1 [(0, .tmp 25)] rfl _ [(0, .agg #[.int .i64 (D k), .pointer q, .int .i32 (E k)])] rfl (slice38 _ _ _ _) (hS1 _ (hBw5.alloc hBw5.size _)) ?_
      simp only [Act.put, List.setIfInBounds_toArray, List.set_cons_succ, List.set_cons_zero]
      have how2 := how5.alloc (.cells #[.int .i64 (D k), .pointer q, .int .i32 (E k)] 38)
      refine ⟨rfl, wp_append_own _ (.tmp 14) (.tmp 26) 25 rfl w.heap.size 38 i38 _ 3 24 Try.underlying25 hi38 hz38 hs38 hb38 rfl (by decide) u3 k _ rfl how2 _ 1 1 [.int .i64 (D k), .pointer q, .int .i32 (E k)] rfl rfl ?c1 ?c2 ?c3 ?c4 ?c5 ?_⟩
      case c1 =>
        intro j u hj
        rw [Addr.add_mid]
        exact range_new _ [.int .i64 (D k), .pointer q, .int .i32 (E k)] 38 j u hj
      case c2 => intro u hu; simp only [List.mem_cons, List.not_mem_nil, or_false] at hu; rcases hu with rfl | rfl | rfl <;> rfl
      case c3 => unfold maxLen; omega
      case c4 => omega
      case c5 => have := hBw5.size; simp; omega
      intro v1 w6 how1 hgr1 _
      have hB1 : Below w.heap.size w w6 := (hBw5.alloc hBw5.size _).trans (below_grown how2 hgr1 (by have := hBw5.size; simp; omega))
      have hfl1 := hfl.snoc how.1 q
      refine ⟨hS1 _ hB1, ?_⟩
      clear how hgr1 c1 c2 hBw how2 how5 hB5 hBw5 hfl
      simp only [Act.put, List.setIfInBounds_toArray, List.set_cons_succ, List.set_cons_zero]
      refine wpListS_run rfl v1 rfl (hS1 _ hB1) ?_
      simp only [Act.put, List.setIfInBounds_toArray, List.set_cons_succ, List.set_cons_zero]
      show NoPanic _ _ _ _
      simp only [NoPanic]
      go_wp2
      go_roundw
      case rel => exact ⟨k + 1, _, by omega, by go_num, how1, hfl1, hB1⟩
      case measure => simp [intOf]; omega
    · obtain rfl : k = n := by omega
      obtain ⟨a2, c2, rfl, hA2⟩ := sch_of_own how hfl
      clear how
      go_wp2
      go_ret
      exact ⟨a2, c2, rfl, hA2, hBw⟩
end Go.Proofs.Qxb6613758a
