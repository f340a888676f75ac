import Derived.Test.Qxb6613758aRate
namespace Go.Proofs.Qxb6613758a
open Go.RowKit
set_option linter.unusedSimpArgs false
set_option linter.unusedVariables false

/-- 's[k:]' of a slice of tiers. -/
theorem wpList_back {ops : Array Oper} {rest : List Oper} {op : Oper} {a : Act} {w : World} {Q : Exit → Act → World → Prop} (hgd : Region.wanted op (yielded ops a.tmps) = true) (x lo : Operand) (ho : op.op = .slice 22 x (some lo) none none)
    (A : Option Addr) (n c k : Nat) (hx : a.eval x = .slice A n c) (hlo : a.eval lo = .int .i64 (k : Int)) (hk : k ≤ n) (hnc : n ≤ c)
    (h : ∀ A', Hid (∀ W D E, TierAt W A n D E → TierAt W A' (n - k) (fun i => D (k + i)) (fun i => E (k + i))) →
      wpList Try.prog ops Q rest (a.put op.dst (.slice A' (n - k) (c - k))) w) : wpList Try.prog ops Q (op :: rest) a w := by
  have hsz : (sizeOf 31).run Try.prog w = .ok 2 w := by kernel_rfl
  have hr : (Instr.slice 22 (.slice A n c) (some (.int .i64 (k : Int))) none none).run Try.prog w = .ok (.slice (if c = k then A else A.map (·.add (k * 2))) (n - k) (c - k)) w := by
    simp only [Instr.slice, Sem.run_bind, run_underlying Try.underlying22, Result.andThen_ok, Instr.sliceBounds, Sem.run_pure]
    rw [run_sliceBound w .i64 (k : Int) n _ (by omega) (by omega)]
    simp [hsz]
  refine wpList_step fun K hK => ?_
  rw [if_pos hgd]
  unfold Oper.wp execOp
  simp only [ho, hx, hlo, Option.map_some, Option.map_none, Instr.sliceAt, Sem.run_bind, run_underlying Try.underlying22, Result.andThen_ok, hr]
  refine hK _ _ (h (if c = k then A else A.map (·.add (k * 2))) ?_)
  intro W D E hA hn
  obtain ⟨b, off, rfl, hc⟩ := hA (by omega)
  refine ⟨b, off + k * 2, ?_, fun i hi => ?_⟩
  · rw [if_neg (by omega)]
    simp [Addr.add_mid]
  · have := hc (k + i) (by omega)
    rw [Nat.add_mul, ← Nat.add_assoc] at this
    exact this

/-- 's[:k]' of a slice of tiers. -/
theorem wpList_front {ops : Array Oper} {rest : List Oper} {op : Oper} {a : Act} {w : World} {Q : Exit → Act → World → Prop} (hgd : Region.wanted op (yielded ops a.tmps) = true) (x hi : Operand) (ho : op.op = .slice 22 x none (some hi) none)
    (A : Option Addr) (n c k : Nat) (hx : a.eval x = .slice A n c) (hlo : a.eval hi = .int .i64 (k : Int)) (hk : k ≤ n) (hnc : n ≤ c)
    (h : wpList Try.prog ops Q rest (a.put op.dst (.slice A k c)) w) : wpList Try.prog ops Q (op :: rest) a w := by
  have hsz : (sizeOf 31).run Try.prog w = .ok 2 w := by kernel_rfl
  have hid : A.map (fun x => x.add 0) = A := by cases A <;> simp [Addr.add]
  have hr : (Instr.slice 22 (.slice A n c) none (some (.int .i64 (k : Int))) none).run Try.prog w = .ok (.slice A k c) w := by
    simp only [Instr.slice, Sem.run_bind, run_underlying Try.underlying22, Result.andThen_ok, Instr.sliceBounds, Sem.run_pure]
    rw [run_sliceBound w .i64 (k : Int) c _ (by omega) (by omega)]
    simp [hsz, hid]
  refine wpList_step fun K hK => ?_
  rw [if_pos hgd]
  unfold Oper.wp execOp
  simp only [ho, hx, hlo, Option.map_some, Option.map_none, Instr.sliceAt, Sem.run_bind, run_underlying Try.underlying22, Result.andThen_ok, hr]
  exact hK _ _ h

theorem tier_front {w : World} {a : Option Addr} {n k : Nat} {D E : Nat → Int} (h : TierAt w a n D E) (hk : k ≤ n) : TierAt w a k D E := fun h0 => by
  obtain ⟨b, off, ha, hc⟩ := h (by omega)
  exact ⟨b, off, ha, fun i hi => hc i (by omega)⟩

theorem more_some {D : Nat → Int} {days : Int} {j : Nat} {sb : Bool} (h : sb = true ↔ ∃ i, i < j ∧ Take (D i) days) (hn : ¬ Take (D j) days) : sb = true ↔ ∃ i, i < j + 1 ∧ Take (D i) days := by
  rw [h]
  constructor
  · rintro ⟨i, hi, h1⟩; exact ⟨i, by omega, h1⟩
  · rintro ⟨i, hi, h1⟩
    by_cases e : i = j
    · subst e; exact absurd h1 hn
    · exact ⟨i, by omega, h1⟩

theorem more_mem {D E : Nat → Int} {days x : Int} {j : Nat} {mb : Bool} (h : mb = true ↔ ∃ i, i < j ∧ Take (D i) days ∧ E i = x) (hn : ¬ (Take (D j) days ∧ E j = x)) : mb = true ↔ ∃ i, i < j + 1 ∧ Take (D i) days ∧ E i = x := by
  rw [h]
  constructor
  · rintro ⟨i, hi, h1⟩; exact ⟨i, by omega, h1⟩
  · rintro ⟨i, hi, h1⟩
    by_cases e : i = j
    · subst e; exact absurd h1 hn
    · exact ⟨i, by omega, h1⟩

/-- The law's answer: true, and nothing that was there is touched. -/
def TruePost (w : World) (e : Ending) (w' : World) : Prop := e = .returned (.bool true) ∧ Below w.heap.size w w'

set_option maxRecDepth 100000 in
set_option maxHeartbeats 4000000 in
theorem law3 (w : World) (a : Option Addr) (n c : Nat) (cut days : Int) (D E : Nat → Int) (hn : n ≤ maxLen) (hnc : n ≤ c) (hcut : -9223372036854775808 ≤ cut ∧ cut ≤ 9223372036854775807) (hA : TierAt w a n D E) :
    Calls Try.prog 3 #[.slice a n c, .int .i64 cut, .int .i64 days] w fun e w' => TruePost w e w' := by
  have hn0 : n ≤ 9223372036854775807 := by unfold maxLen at hn; omega
  go_enter Try.func3, Try.ntmps3
  go_wp2_with fail
  refine (bytes5 w a n c cut days hn).mono ?_
  rintro e wx ⟨⟨r, rfl⟩, hwx⟩
  rw [hwx]
  clear hwx wx hn
  cases r
  · go_wp2
    go_ret
    exact ⟨rfl, Below.refl _ _⟩
  by_cases h16 : n ≤ 65536
  rotate_left
  · go_wp2
    go_ret
    exact ⟨rfl, Below.refl _ _⟩
  by_cases hneg : cut < 0
  · have e0 : decide (cut < 0) = true := by simpa using hneg
    go_wp2
    go_ret
    exact ⟨rfl, Below.refl _ _⟩
  obtain ⟨k, rfl⟩ := Int.eq_ofNat_of_zero_le (show 0 ≤ cut by omega)
  have e0 : decide ((k : Int) < 0) = false := by simp
  by_cases hkn : k ≤ n
  rotate_left
  · have e1 : decide ((n : Int) < (k : Int)) = true := by simp; omega
    go_wp2
    go_ret
    exact ⟨rfl, Below.refl _ _⟩
  have e1 : decide ((n : Int) < (k : Int)) = false := by simp; omega
  clear hneg
  go_wp2_with fail
  refine (build6 w a n c D E h16 hA).mono ?_
  rintro e w1 ⟨aw, cw, rfl, hSw, hB1⟩
  go_wp2_with (refine wpList_front rfl (.tmp 37) (.tmp 38) rfl a n c k rfl rfl hkn hnc ?_)
  refine (build6 w1 a k c D E (by omega) (tier_front (tier_below hB1 hA) hkn)).mono ?_
  rintro e w2 ⟨af, cf, rfl, hSf, hB2⟩
  have hBw2 := hB1.trans (hB2.mono hB1.size)
  go_wp2_with (refine wpList_back rfl (.tmp 41) (.tmp 42) rfl a n c k rfl rfl hkn hnc ?_)
  intro A' HA'
  go_wp2_with fail
  refine (build6 w2 A' (n - k) (c - k) _ _ (by omega) (HA'.out _ _ _ (tier_below hBw2 hA))).mono ?_
  rintro e w3 ⟨ab, cb, rfl, hSb, hB3⟩
  have hBw3 := hBw2.trans (hB3.mono hBw2.size)
  have hSw3 := sch_below hB3 (sch_below hB2 hSw)
  have hSf3 := sch_below hB3 hSf
  clear hSw hSf HA' hB1 hB2 hB3 hBw2
  go_wp2_with fail
  refine (tag7 w3 aw n cw days D E h16 hSw3).mono ?_
  rintro e w4 ⟨x, ok, rfl, hr, hB4⟩
  go_wp2_with fail
  refine (tag7 w4 af k cf days D E (by omega) (sch_below hB4 hSf3)).mono ?_
  rintro e w5 ⟨x1, ok1, rfl, hr1, hB5⟩
  go_wp2_with fail
  refine (tag7 w5 ab (n - k) cb days _ _ (by omega) (sch_below hB5 (sch_below hB4 hSb))).mono ?_
  rintro e w6 ⟨x2, ok2, rfl, hr2, hB6'⟩
  have hBw4 := hBw3.trans (hB4.mono hBw3.size)
  have hBw5 := hBw4.trans (hB5.mono hBw4.size)
  have hB6 := hBw5.trans (hB6'.mono hBw5.size)
  clear hBw3 hBw4 hBw5 hB4 hB5 hB6' hSw3 hSf3 hSb
  cases ok
  · cases ok1
    rotate_left
    · have := (rate_front hkn hr hr1).1
      cases this
    obtain ⟨e3, rfl⟩ := rate_back hkn hr hr1 hr2
    subst e3
    have HR : Hid (IsRate D E n days x false) := hr
    clear hr hr1 hr2
    have ex : (x != x) = false := by simp
    go_wp2_with fail
    go_loopw [16, 17, 18] (fun s m i wr => ∃ (j : Nat) (sb mb : Bool), j ≤ n ∧ i = .int .i64 j ∧ s = .bool sb ∧ m = .bool mb ∧ (sb = true ↔ ∃ i, i < j ∧ Take (D i) days) ∧ (mb = true ↔ ∃ i, i < j ∧ Take (D i) days ∧ E i = x) ∧ Below w.heap.size w wr)
      (fun _ _ i _ => n - (intOf i).toNat)
    case atStart => exact ⟨0, false, false, by omega, rfl, rfl, rfl, ⟨fun h => (by cases h), fun ⟨i, h, _⟩ => (by omega)⟩, ⟨fun h => (by cases h), fun ⟨i, h, _⟩ => (by omega)⟩, hB6⟩
    case round =>
      obtain ⟨j, sb, mb, hjn, rfl, rfl, rfl, hsb, hmb, hBr⟩ := hrel
      have HS : Hid ((sb = true ↔ ∃ i, i < j ∧ Take (D i) days) ∧ (mb = true ↔ ∃ i, i < j ∧ Take (D i) days ∧ E i = x)) := ⟨hsb, hmb⟩
      clear hsb hmb
      by_cases hlt : j < n
      · obtain ⟨b, off, hab, hc⟩ := tier_below hBr hA (by omega)
        subst hab
        obtain ⟨c1, c2⟩ := hc j hlt
        go_wp2_with fail
        refine (takes8 wr (D j) (E j) days).mono ?_
        rintro e w8 ⟨rfl, hB8⟩
        have hBr8 := hBr.trans (hB8.mono hBr.size)
        have c3 := (tier_below hBr8 hA)
        clear c1 c2 hc
        obtain ⟨b', off', hab, hc⟩ := c3 (by omega)
        simp only [Option.some.injEq, Addr.mk.injEq, and_true] at hab
        obtain ⟨rfl, rfl⟩ := hab
        obtain ⟨c1, c2⟩ := hc j hlt
        clear hc
        by_cases ht : Take (D j) days
        · have et : takeB (D j) days = true := takeB_true ht
          by_cases he : E j = x
          · have ee : (E j == x) = true := by simpa using he
            have HT : Hid (Take (D j) days ∧ E j = x) := ⟨ht, he⟩
            clear ht he
            go_wp2
            go_roundw
            case rel => exact ⟨j + 1, true, true, by omega, by go_num, rfl, rfl, ⟨fun _ => ⟨j, by omega, HT.out.1⟩, fun _ => rfl⟩, ⟨fun _ => ⟨j, by omega, HT.out⟩, fun _ => rfl⟩, hBr8⟩
            case measure => simp [intOf]; omega
          · have ee : (E j == x) = false := by simpa using he
            have HT : Hid (Take (D j) days ∧ E j ≠ x) := ⟨ht, he⟩
            clear ht he
            go_wp2
            go_roundw
            case rel => exact ⟨j + 1, true, mb, by omega, by go_num, rfl, rfl, ⟨fun _ => ⟨j, by omega, HT.out.1⟩, fun _ => rfl⟩, more_mem HS.out.2 (fun h => HT.out.2 h.2), hBr8⟩
            case measure => simp [intOf]; omega
        · have et : takeB (D j) days = false := takeB_false ht
          have HT : Hid (¬ Take (D j) days) := ht
          clear ht
          go_wp2
          go_roundw
          case rel => exact ⟨j + 1, sb, mb, by omega, by go_num, rfl, rfl, more_some HS.out.1 HT.out, more_mem HS.out.2 (fun h => HT.out h.1), hBr8⟩
          case measure => simp [intOf]; omega
      · obtain rfl : j = n := by omega
        obtain ⟨h1, h2, h3⟩ := rate_some HR.out HS.out.1 HS.out.2
        subst h1
        have h4 := h3 rfl
        subst h4
        clear h2 h3
        go_wp2
        go_ret
        exact ⟨rfl, hBr⟩
  · cases ok1
    case' false =>
      obtain ⟨e3, rfl⟩ := rate_back hkn hr hr1 hr2
      subst e3
      have HR : Hid (IsRate D E n days x true) := hr
      clear hr hr1 hr2
      have ex : (x != x) = false := by simp
      go_wp2_with fail
    case' true =>
      obtain ⟨e3, rfl⟩ := rate_front hkn hr hr1
      clear e3
      have HR : Hid (IsRate D E n days x true) := hr
      clear hr hr1 hr2
      have ex : (x != x) = false := by simp
      go_wp2_with fail
    all_goals
      go_loopw [16, 17, 18] (fun s m i wr => ∃ (j : Nat) (sb mb : Bool), j ≤ n ∧ i = .int .i64 j ∧ s = .bool sb ∧ m = .bool mb ∧ (sb = true ↔ ∃ i, i < j ∧ Take (D i) days) ∧ (mb = true ↔ ∃ i, i < j ∧ Take (D i) days ∧ E i = x) ∧ Below w.heap.size w wr)
        (fun _ _ i _ => n - (intOf i).toNat)
      case atStart => exact ⟨0, false, false, by omega, rfl, rfl, rfl, ⟨fun h => (by cases h), fun ⟨i, h, _⟩ => (by omega)⟩, ⟨fun h => (by cases h), fun ⟨i, h, _⟩ => (by omega)⟩, hB6⟩
      case round =>
        obtain ⟨j, sb, mb, hjn, rfl, rfl, rfl, hsb, hmb, hBr⟩ := hrel
        have HS : Hid ((sb = true ↔ ∃ i, i < j ∧ Take (D i) days) ∧ (mb = true ↔ ∃ i, i < j ∧ Take (D i) days ∧ E i = x)) := ⟨hsb, hmb⟩
        clear hsb hmb
        by_cases hlt : j < n
        · obtain ⟨b, off, hab, hc⟩ := tier_below hBr hA (by omega)
          subst hab
          obtain ⟨c1, c2⟩ := hc j hlt
          go_wp2_with fail
          refine (takes8 wr (D j) (E j) days).mono ?_
          rintro e w8 ⟨rfl, hB8⟩
          have hBr8 := hBr.trans (hB8.mono hBr.size)
          have c3 := (tier_below hBr8 hA)
          clear c1 c2 hc
          obtain ⟨b', off', hab, hc⟩ := c3 (by omega)
          simp only [Option.some.injEq, Addr.mk.injEq, and_true] at hab
          obtain ⟨rfl, rfl⟩ := hab
          obtain ⟨c1, c2⟩ := hc j hlt
          clear hc
          by_cases ht : Take (D j) days
          · have et : takeB (D j) days = true := takeB_true ht
            by_cases he : E j = x
            · have ee : (E j == x) = true := by simpa using he
              have HT : Hid (Take (D j) days ∧ E j = x) := ⟨ht, he⟩
              clear ht he
              go_wp2
              go_roundw
              case rel => exact ⟨j + 1, true, true, by omega, by go_num, rfl, rfl, ⟨fun _ => ⟨j, by omega, HT.out.1⟩, fun _ => rfl⟩, ⟨fun _ => ⟨j, by omega, HT.out⟩, fun _ => rfl⟩, hBr8⟩
              case measure => simp [intOf]; omega
            · have ee : (E j == x) = false := by simpa using he
              have HT : Hid (Take (D j) days ∧ E j ≠ x) := ⟨ht, he⟩
              clear ht he
              go_wp2
              go_roundw
              case rel => exact ⟨j + 1, true, mb, by omega, by go_num, rfl, rfl, ⟨fun _ => ⟨j, by omega, HT.out.1⟩, fun _ => rfl⟩, more_mem HS.out.2 (fun h => HT.out.2 h.2), hBr8⟩
              case measure => simp [intOf]; omega
          · have et : takeB (D j) days = false := takeB_false ht
            have HT : Hid (¬ Take (D j) days) := ht
            clear ht
            go_wp2
            go_roundw
            case rel => exact ⟨j + 1, sb, mb, by omega, by go_num, rfl, rfl, more_some HS.out.1 HT.out, more_mem HS.out.2 (fun h => HT.out h.1), hBr8⟩
            case measure => simp [intOf]; omega
        · obtain rfl : j = n := by omega
          obtain ⟨h1, h2, h3⟩ := rate_some HR.out HS.out.1 HS.out.2
          subst h1
          have h4 := h2 rfl
          subst h4
          clear h2 h3
          go_wp2
          go_ret
          exact ⟨rfl, hBr⟩
end Go.Proofs.Qxb6613758a
