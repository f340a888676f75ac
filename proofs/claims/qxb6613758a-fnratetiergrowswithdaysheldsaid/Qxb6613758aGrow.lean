import Derived.Test.Qxb6613758aRate
namespace Go.Proofs.Qxb6613758a
open Go.RowKit
set_option linter.unusedSimpArgs false
set_option linter.unusedVariables false

theorem info31 : (Try.prog.info? 31).map (fun i => (i.zero, i.size, i.bytes)) = some (some (.agg #[.int .i64 0, .int .i32 0]), 2, 16) := by kernel_rfl
theorem size31 : (Try.prog.info? 31).map (·.size) = some 2 := by kernel_rfl

theorem make_tiers (n : Nat) (hn : n ≤ 65536) : ∃ M : Array Value, M.size = n * 2 ∧ ∀ w : World, (Instr.makeSlice 22 (.int .i64 (n : Int)) (.int .i64 (n : Int))).run Try.prog w =
      .ok (.slice (some ⟨w.heap.size, 0, none⟩) n n) (w.alloc (.cells M 31)) := by
  obtain ⟨i, hi, hz0, hz1, hz2⟩ := info_parts info31
  refine ⟨madeCells (Value.agg #[.int .i64 0, .int .i32 0]).cells (n * 2), size_madeCells _ _, fun w => ?_⟩
  rw [run_make w 22 31 i _ Try.underlying22 hi hz0 .i64 .i64 n n (by omega) (by omega) (by rw [hz2]; omega) (by omega), hz1]
  simp

/-- The two cells of a tier. -/
def tierCells (B : Nat → Int) (i : Nat) : List Value := [.int .i64 (B i), .int .i32 (i : Int)]

theorem ints_drewN {w : World} {a : Option Addr} {n : Nat} {B : Nat → Int} (h : IntsAt w a n B) (q : Nat) : IntsAt (w.drewN q) a n B := fun hn => by
  obtain ⟨b, off, ha, hc⟩ := h hn
  exact ⟨b, off, ha, fun i hi => by simpa using hc i hi⟩

/-- The law's answer: true, and nothing that was there is touched. -/
def TruePost4 (w : World) (e : Ending) (w' : World) : Prop := e = .returned (.bool true) ∧ Below w.heap.size w w'

set_option maxRecDepth 100000 in
set_option maxHeartbeats 4000000 in
theorem law4 (w : World) (a : Option Addr) (n c : Nat) (d1 d2 : Int) (B : Nat → Int) (hn : n ≤ maxLen) (hA : IntsAt w a n B) :
    Calls Try.prog 4 #[.slice a n c, .int .i64 d1, .int .i64 d2] w fun e w' => TruePost4 w e w' := by
  have hn0 : n ≤ 9223372036854775807 := by unfold maxLen at hn; omega
  go_enter Try.func4, Try.ntmps4
  go_wp2_with fail
  refine (bytes9 w a n c d1 d2 hn).mono ?_
  rintro e wx ⟨⟨r, rfl⟩, hwx⟩
  rw [hwx]
  clear hwx wx hn
  cases r
  · go_wp2
    go_ret
    exact ⟨rfl, Below.refl _ _⟩
  by_cases h16 : n ≤ 65536
  rotate_left
  · go_wp2
    go_ret
    exact ⟨rfl, Below.refl _ _⟩
  by_cases h0 : n = 0
  · subst h0
    go_wp2
    go_ret
    exact ⟨rfl, Below.refl _ _⟩
  have e0 : ((n : Int) == 0) = false := by simp; omega
  obtain ⟨m, hm⟩ : ∃ m, n = m + 1 := ⟨n - 1, by omega⟩
  have hnm : (n : Int) - 1 = (m : Int) := by omega
  have hmn : (m : Int) < (n : Int) := by omega
  have HM : Hid (n = m + 1) := hm
  obtain ⟨b, off, rfl, hc⟩ := hA (by omega)
  have cm := hc m (by omega)
  clear hc hm
  by_cases hz : B m = 0
  rotate_left
  · have e1 : (B m != 0) = true := by simpa using hz
    clear hz
    go_wp2
    go_ret
    exact ⟨rfl, Below.refl _ _⟩
  have e1 : (B m != 0) = false := by simpa using hz
  have HZ : Hid (B m = 0) := hz
  clear hz
  go_wp2_with fail
  clear e0 e1 cm
  go_loopw [8] (fun i wr => ∃ k q : Nat, k + 1 ≤ n ∧ i = .int .i64 k ∧ (∀ j, j < k → B j ≠ 0) ∧ wr = w.drewN q) (fun i _ => n - (intOf i).toNat)
  case atStart => exact ⟨0, 0, by omega, rfl, fun j hj => by omega, rfl⟩
  case round =>
    obtain ⟨k, q, hkn, rfl, hall, rfl⟩ := hrel
    have HN : Hid (∀ j, j < k → B j ≠ 0) := hall
    clear hall
    obtain ⟨b', off', hab, hc⟩ := hA (by omega)
    simp only [Option.some.injEq, Addr.mk.injEq, and_true] at hab
    obtain ⟨rfl, rfl⟩ := hab
    by_cases hlt : k + 1 < n
    · have c1 := hc k (by omega)
      by_cases hz : B k = 0
      · have e1 : (B k == 0) = true := by simpa using hz
        clear hc hz
        go_wp2
        go_ret
        exact ⟨rfl, below_drewN (Below.refl _ _) q⟩
      · have e1 : (B k == 0) = false := by simpa using hz
        have HZk : Hid (B k ≠ 0) := hz
        clear hz
        by_cases hk0 : k = 0
        · subst hk0
          rw [Nat.add_zero] at c1
          clear hc
          go_wp2
          go_quiet (fail)
          go_wp2
          go_roundw
          case rel =>
            refine ⟨1, q + nq, by omega, by go_num, fun j hj => ?_, by simp⟩
            obtain rfl : j = 0 := by omega
            exact HZk.out
          case measure => simp [intOf]; omega
        · obtain ⟨p, rfl⟩ : ∃ p, k = p + 1 := ⟨k - 1, by omega⟩
          have c2 := hc p (by omega)
          clear hc
          by_cases hle : B (p + 1) ≤ B p
          · have e2 : decide (B (p + 1) ≤ B p) = true := by simpa using hle
            clear hle
            go_wp2
            go_quiet (fail)
            go_wp2
            go_ret
            exact ⟨rfl, by simpa using below_drewN (below_drewN (Below.refl w.heap.size w) q) nq⟩
          · have e2 : decide (B (p + 1) ≤ B p) = false := by simpa using hle
            clear hle
            go_wp2
            go_quiet (fail)
            go_wp2
            go_roundw
            case rel =>
              refine ⟨p + 2, q + nq, by omega, by go_num, fun j hj => ?_, by simp⟩
              by_cases e : j = p + 1
              · subst e; exact HZk.out
              · exact HN.out j (by omega)
            case measure => simp [intOf]; omega
    · clear hc
      obtain ⟨M, hM, hmk⟩ := make_tiers n h16
      have HB : Hid (∀ i, i + 1 < n → B i ≠ 0) := fun i hi => HN.out i (by omega)
      clear HN
      by_cases hsw : d2 < d1
      · have es : decide (d2 < d1) = true := by simpa using hsw
        go_wp2_with fail
        go_loopw [10] (fun i wr => ∃ j : Nat, j ≤ n ∧ i = .int .i64 j ∧ wr.there w.heap.size 0 (n * 2) ∧ (∀ l, l < j → wr.rangeAt w.heap.size (l * 2) (tierCells B l)) ∧ Below w.heap.size w wr)
          (fun i _ => n - (intOf i).toNat)
        case atStart => exact ⟨0, by omega, rfl, there_new (w.drewN q) _ _ _ (by omega), fun l hl => by omega, below_drewN (Below.refl _ _) q |>.alloc (Nat.le_refl _) _⟩
        case round =>
          clear hmk hM
          obtain ⟨j, hj, rfl, hth, hrg, hb⟩ := hrel
          by_cases hltj : j < n
          · obtain ⟨b', off', hab, hc⟩ := ints_below hb hA (by omega)
            simp only [Option.some.injEq, Addr.mk.injEq, and_true] at hab
            obtain ⟨rfl, rfl⟩ := hab
            have c1 := hc j hltj
            clear hc
            have hthj : wr.there w.heap.size (j * 2) (tierCells B j).length := by
              intro l hl
              have hl2 : l < 2 := hl
              have := hth (j * 2 + l) (by omega)
              simpa using this
            have hwr : IntKind.i32.wrap (j : Int) = (j : Int) := by
              simp [IntKind.wrap, IntKind.bits, IntKind.signed]
              omega
            have HT : Hid (wr.there w.heap.size 0 (n * 2) ∧ (∀ l, l < j → wr.rangeAt w.heap.size (l * 2) (tierCells B l)) ∧ wr.there w.heap.size (j * 2) (tierCells B j).length) := ⟨hth, hrg, hthj⟩
            clear hth hrg hthj
            go_wp2_with (refine wpList_store_named rfl 31 _ _ rfl w.heap.size (j * 2) (tierCells B j) rfl rfl HT.out.2.2 size31 ?h3 ?_)
            case h3 =>
              intro v hv
              simp only [tierCells, List.mem_cons, List.not_mem_nil, or_false] at hv
              rcases hv with rfl | rfl <;> rfl
            intro W HW
            have R : W.there w.heap.size 0 (n * 2) ∧ (∀ l, l < j + 1 → W.rangeAt w.heap.size (l * 2) (tierCells B l)) ∧ Below w.heap.size w W := by
              rw [HW.out]
              refine ⟨World.there_setCells HT.out.1 _ _ _, fun l hl => ?_, Below.setCells (Nat.le_refl _) _ _ _ hb⟩
              by_cases e : l = j
              · subst e; exact World.rangeAt_setCells_same _ _ _ _ HT.out.2.2
              · refine World.rangeAt_setCells_apart (HT.out.2.1 l (by omega)) _ _ _ ?_
                have : (tierCells B l).length = 2 := rfl
                omega
            clear hb HW c1 HT
            go_wp2
            go_roundw
            case rel => exact ⟨j + 1, by omega, by go_num, R.1, R.2.1, R.2.2⟩
            case measure => simp [intOf]; omega
          · obtain rfl : n = j := by omega
            have hT : TierAt wr (some ⟨w.heap.size, 0, none⟩) n B (fun i => (i : Int)) := fun _ => ⟨_, _, rfl, fun i hi => by
              have := hrg i hi
              exact ⟨by simpa using this 0 _ rfl, by simpa using this 1 _ rfl⟩⟩
            clear hth hrg hj
            go_wp2_with fail
            refine (build6 wr _ n n B (fun i => (i : Int)) h16 hT).mono ?_
            rintro e w5 ⟨aw, cw, rfl, hSw, hB5⟩
            have hBw5 := hb.trans (hB5.mono hb.size)
            go_wp2_with fail
            refine (tag7 w5 aw n cw d2 B (fun i => (i : Int)) h16 hSw).mono ?_
            rintro e w6 ⟨x1, ok1, rfl, hr1, hB6⟩
            go_wp2_with fail
            refine (tag7 w6 aw n cw d1 B (fun i => (i : Int)) h16 (sch_below hB6 hSw)).mono ?_
            rintro e w7 ⟨x2, ok2, rfl, hr2, hB7⟩
            have hBw6 := hBw5.trans (hB6.mono hBw5.size)
            have hBw7 := hBw6.trans (hB7.mono hBw6.size)
            have hlast : B (n - 1) = 0 := by rw [show n - 1 = m by have := HM.out; omega]; exact HZ.out
            obtain ⟨rfl, i1, rfl, hi1, p1, p2, p3, p4⟩ := rate_tier (by omega) hlast HB.out hr1
            obtain ⟨rfl, i2, rfl, hi2, s1, s2, s3, s4⟩ := rate_tier (by omega) hlast HB.out hr2
            have hle : i1 ≤ i2 := tier_grows (by omega) p3 s4
            have el : decide ((i1 : Int) ≤ (i2 : Int)) = true := by simp; omega
            have w1 : IntKind.i64.wrap (i1 : Int) = (i1 : Int) := by
              simp [IntKind.wrap, IntKind.bits, IntKind.signed]
              omega
            have w2 : IntKind.i64.wrap (i2 : Int) = (i2 : Int) := by
              simp [IntKind.wrap, IntKind.bits, IntKind.signed]
              omega
            have HP : Hid ((i1 + 1 < n → d2 < B i1) ∧ (0 < i1 → B (i1 - 1) ≤ d2) ∧ (i2 + 1 < n → d1 < B i2) ∧ (0 < i2 → B (i2 - 1) ≤ d1)) := ⟨p1, p2, s1, s2⟩
            clear hr1 hr2 p1 p2 p3 p4 s1 s2 s3 s4 hlast hSw hT
            go_wp2_with fail
            refine (in10 w7 _ n c i1 d2 B (ints_below hBw7 hA) h16 hi1 HP.out.1 HP.out.2.1).mono ?_
            rintro e wx ⟨rfl, hwx⟩
            rw [hwx]
            clear hwx wx
            go_wp2_with fail
            refine (in10 w7 _ n c i2 d1 B (ints_below hBw7 hA) h16 hi2 HP.out.2.2.1 HP.out.2.2.2).mono ?_
            rintro e wx ⟨rfl, hwx⟩
            rw [hwx]
            clear hwx wx
            go_wp2
            go_ret
            exact ⟨rfl, hBw7⟩
      · have es : decide (d2 < d1) = false := by simpa using hsw
        go_wp2_with fail
        go_loopw [10] (fun i wr => ∃ j : Nat, j ≤ n ∧ i = .int .i64 j ∧ wr.there w.heap.size 0 (n * 2) ∧ (∀ l, l < j → wr.rangeAt w.heap.size (l * 2) (tierCells B l)) ∧ Below w.heap.size w wr)
          (fun i _ => n - (intOf i).toNat)
        case atStart => exact ⟨0, by omega, rfl, there_new (w.drewN q) _ _ _ (by omega), fun l hl => by omega, below_drewN (Below.refl _ _) q |>.alloc (Nat.le_refl _) _⟩
        case round =>
          clear hmk hM
          obtain ⟨j, hj, rfl, hth, hrg, hb⟩ := hrel
          by_cases hltj : j < n
          · obtain ⟨b', off', hab, hc⟩ := ints_below hb hA (by omega)
            simp only [Option.some.injEq, Addr.mk.injEq, and_true] at hab
            obtain ⟨rfl, rfl⟩ := hab
            have c1 := hc j hltj
            clear hc
            have hthj : wr.there w.heap.size (j * 2) (tierCells B j).length := by
              intro l hl
              have hl2 : l < 2 := hl
              have := hth (j * 2 + l) (by omega)
              simpa using this
            have hwr : IntKind.i32.wrap (j : Int) = (j : Int) := by
              simp [IntKind.wrap, IntKind.bits, IntKind.signed]
              omega
            have HT : Hid (wr.there w.heap.size 0 (n * 2) ∧ (∀ l, l < j → wr.rangeAt w.heap.size (l * 2) (tierCells B l)) ∧ wr.there w.heap.size (j * 2) (tierCells B j).length) := ⟨hth, hrg, hthj⟩
            clear hth hrg hthj
            go_wp2_with (refine wpList_store_named rfl 31 _ _ rfl w.heap.size (j * 2) (tierCells B j) rfl rfl HT.out.2.2 size31 ?h3 ?_)
            case h3 =>
              intro v hv
              simp only [tierCells, List.mem_cons, List.not_mem_nil, or_false] at hv
              rcases hv with rfl | rfl <;> rfl
            intro W HW
            have R : W.there w.heap.size 0 (n * 2) ∧ (∀ l, l < j + 1 → W.rangeAt w.heap.size (l * 2) (tierCells B l)) ∧ Below w.heap.size w W := by
              rw [HW.out]
              refine ⟨World.there_setCells HT.out.1 _ _ _, fun l hl => ?_, Below.setCells (Nat.le_refl _) _ _ _ hb⟩
              by_cases e : l = j
              · subst e; exact World.rangeAt_setCells_same _ _ _ _ HT.out.2.2
              · refine World.rangeAt_setCells_apart (HT.out.2.1 l (by omega)) _ _ _ ?_
                have : (tierCells B l).length = 2 := rfl
                omega
            clear hb HW c1 HT
            go_wp2
            go_roundw
            case rel => exact ⟨j + 1, by omega, by go_num, R.1, R.2.1, R.2.2⟩
            case measure => simp [intOf]; omega
          · obtain rfl : n = j := by omega
            have hT : TierAt wr (some ⟨w.heap.size, 0, none⟩) n B (fun i => (i : Int)) := fun _ => ⟨_, _, rfl, fun i hi => by
              have := hrg i hi
              exact ⟨by simpa using this 0 _ rfl, by simpa using this 1 _ rfl⟩⟩
            clear hth hrg hj
            go_wp2_with fail
            refine (build6 wr _ n n B (fun i => (i : Int)) h16 hT).mono ?_
            rintro e w5 ⟨aw, cw, rfl, hSw, hB5⟩
            have hBw5 := hb.trans (hB5.mono hb.size)
            go_wp2_with fail
            refine (tag7 w5 aw n cw d1 B (fun i => (i : Int)) h16 hSw).mono ?_
            rintro e w6 ⟨x1, ok1, rfl, hr1, hB6⟩
            go_wp2_with fail
            refine (tag7 w6 aw n cw d2 B (fun i => (i : Int)) h16 (sch_below hB6 hSw)).mono ?_
            rintro e w7 ⟨x2, ok2, rfl, hr2, hB7⟩
            have hBw6 := hBw5.trans (hB6.mono hBw5.size)
            have hBw7 := hBw6.trans (hB7.mono hBw6.size)
            have hlast : B (n - 1) = 0 := by rw [show n - 1 = m by have := HM.out; omega]; exact HZ.out
            obtain ⟨rfl, i1, rfl, hi1, p1, p2, p3, p4⟩ := rate_tier (by omega) hlast HB.out hr1
            obtain ⟨rfl, i2, rfl, hi2, s1, s2, s3, s4⟩ := rate_tier (by omega) hlast HB.out hr2
            have hle : i1 ≤ i2 := tier_grows (by omega) p3 s4
            have el : decide ((i1 : Int) ≤ (i2 : Int)) = true := by simp; omega
            have w1 : IntKind.i64.wrap (i1 : Int) = (i1 : Int) := by
              simp [IntKind.wrap, IntKind.bits, IntKind.signed]
              omega
            have w2 : IntKind.i64.wrap (i2 : Int) = (i2 : Int) := by
              simp [IntKind.wrap, IntKind.bits, IntKind.signed]
              omega
            have HP : Hid ((i1 + 1 < n → d1 < B i1) ∧ (0 < i1 → B (i1 - 1) ≤ d1) ∧ (i2 + 1 < n → d2 < B i2) ∧ (0 < i2 → B (i2 - 1) ≤ d2)) := ⟨p1, p2, s1, s2⟩
            clear hr1 hr2 p1 p2 p3 p4 s1 s2 s3 s4 hlast hSw hT
            go_wp2_with fail
            refine (in10 w7 _ n c i1 d1 B (ints_below hBw7 hA) h16 hi1 HP.out.1 HP.out.2.1).mono ?_
            rintro e wx ⟨rfl, hwx⟩
            rw [hwx]
            clear hwx wx
            go_wp2_with fail
            refine (in10 w7 _ n c i2 d2 B (ints_below hBw7 hA) h16 hi2 HP.out.2.2.1 HP.out.2.2.2).mono ?_
            rintro e wx ⟨rfl, hwx⟩
            rw [hwx]
            clear hwx wx
            go_wp2
            go_ret
            exact ⟨rfl, hBw7⟩
end Go.Proofs.Qxb6613758a
