import Derived.Test.Qxb6615735aBytes
import Derived.Test.Qxb6615735aPlain2
import Derived.Test.Qxb6615735aClosed
namespace Go.Proofs.Qxb6615735a
open Go.RowKit
set_option linter.unusedSimpArgs false
set_option linter.unusedVariables false

/-- The inputs that the law's own tests turn away. -/
def Good3 (l3 l4 : Nat) (cut : Int) : Prop := l3 ≤ 32768 ∧ l3 * 32 + l4 * 8 ≤ 1048576 ∧ l3 = l4 ∧ 0 ≤ cut ∧ cut ≤ l4

set_option maxHeartbeats 1000000 in
set_option maxRecDepth 100000 in
theorem walk3_bad (o i f : Int) (a3 a4 : Option Addr) (l3 c3 l4 c4 : Nat) (cut : Int) (w : World) (h3 : l3 ≤ 9223372036854775807) (h4 : l4 ≤ 9223372036854775807) (hc : -9223372036854775808 ≤ cut ∧ cut ≤ 9223372036854775807) (hbad : ¬ (l3 ≤ 32768 ∧ l3 * 32 + l4 * 8 ≤ 1048576 ∧ l3 = l4 ∧ 0 ≤ cut ∧ cut ≤ l4)) :
    Calls Try.prog 3 #[.int .u32 o, .int .u64 i, .int .u64 f, .slice a3 l3 c3, .slice a4 l4 c4, .int .i64 cut] w fun e w' => e = .returned (.bool true) ∧ w' = w := by
  have hm3 : l3 ≤ maxLen := by unfold maxLen; omega
  have hm4 : l4 ≤ maxLen := by unfold maxLen; omega
  go_enter Try.func3, Try.ntmps3
  go_wp2_with (go_at_call 5; go_must (refine (bytes5 _ _ _ _ _ _ _ _ _ _ _ hm3 hm4).mono ?_))
  rintro e w1 ⟨⟨r, rfl⟩, rfl⟩
  cases r
  · go_wp2
    go_ret
    exact ⟨rfl, rfl⟩
  · go_wp2
    all_goals first
      | (go_ret; exact ⟨rfl, rfl⟩)
      | (exfalso
         have h : ((l3 : Int) != (l4 : Int)) = false := by assumption
         simp at h
         omega)

theorem below_grew {w w1 w2 : World} (h1 : Below w.heap.size w w1) (h2 : Below w1.heap.size w1 w2) : Below w.heap.size w w2 :=
  h1.trans (h2.mono h1.size)

theorem body_cell (w : World) (x0 x1 x2 x3 : Value) : (w.alloc (.cells #[x0, x1, x2, x3] 34)).cell? ⟨w.heap.size, 2, none⟩ = some x2 ∧ (w.alloc (.cells #[x0, x1, x2, x3] 34)).cell? ⟨w.heap.size, 3, none⟩ = some x3 := by
  have hg : (w.alloc (.cells #[x0, x1, x2, x3] 34)).heap[w.heap.size]? = some (.cells #[x0, x1, x2, x3] 34 (0, 0)) := heap_alloc_new w _
  exact ⟨by rw [cell_of_row _ _ _ _ _ _ hg]; rfl, by rw [cell_of_row _ _ _ _ _ _ hg]; rfl⟩

/-- zzItems at numbers that are given as integers. -/
theorem items_at (f t : Int) (fN tN : Nat) (hf : f = fN) (ht : t = tN) (a0 a1 : Option Addr) (n0 c0 n1 c1 : Nat) (I : Nat → List Value) (S : Nat → Int) (w : World) (hft : fN ≤ tN) (ht0 : tN ≤ n0) (ht1 : tN ≤ n1) (ht2 : tN ≤ 32768)
    (hI : ArrAt w a0 n0 32 I) (hS : ArrAt w a1 n1 1 (fun i => [.int .u64 (S i)])) (h8 : ∀ i, i < n0 → Bytes8 (I i)) :
    Calls Try.prog 7 #[.slice a0 n0 c0, .slice a1 n1 c1, .int .i64 f, .int .i64 t] w fun e w' =>
      e = .returned (.slice (some ⟨w.heap.size, 0, none⟩) (tN - fN) (tN - fN)) ∧ ArrAt w' (some ⟨w.heap.size, 0, none⟩) (tN - fN) 33 (itemCells (fun j => I (fN + j)) (fun j => S (fN + j))) ∧ Below w.heap.size w w' ∧ w.heap.size < w'.heap.size := by
  subst hf ht
  exact items7 a0 a1 n0 c0 n1 c1 fN tN I S w hft ht0 ht1 ht2 hI hS (fun i hi => (h8 i hi).one)

/-- ZZeachStamp on a body that has just been laid. -/
theorem stamp_body (w2 : World) (o i f : Int) (a : Option Addr) (n : Nat) (I : Nat → List Value) (S : Nat → Int) (hn : n ≤ 32768) (hA : ArrAt w2 a n 33 (itemCells I S)) (hI : ∀ i, i < n → (I i).length = 32 ∧ Bytes8 (I i)) :
    Calls Try.prog 6 #[.pointer (some ⟨w2.heap.size, 0, none⟩)] (w2.alloc (.cells #[.int .u32 o, .int .u64 i, .int .u64 f, .slice a n n] 34)) fun e w' => StampsPost (callsTo f S n) I w2 e w' := by
  have hb : Below w2.heap.size w2 (w2.alloc (.cells #[.int .u32 o, .int .u64 i, .int .u64 f, .slice a n n] 34)) := (Below.refl _ _).alloc (Nat.le_refl _) _
  refine (stamp6 _ w2.heap.size n n a f I S (by simp) (body_cell _ _ _ _ _).1 (body_cell _ _ _ _ _).2 hn (arr_below rfl hb (by decide) hA) (fun i hi => ⟨(hI i hi).1, (hI i hi).2.one⟩)).mono ?_
  rintro e w' ⟨aI, cI, aS, cS, rfl, h1, h2, h3⟩
  exact ⟨aI, cI, aS, cS, rfl, h1, h2, hb.trans (h3.mono (by simp))⟩

theorem arr_len {w : World} {a : Option Addr} {n sz : Nat} {I : Nat → List Value} (h : ArrAt w a n sz I) : ∀ i, i < n → (I i).length = sz := fun i hi => by
  obtain ⟨b, o, _, hr⟩ := h (by omega)
  exact (hr i hi).1

set_option maxHeartbeats 2000000 in
set_option maxRecDepth 100000 in
theorem walk3_good (o i f : Int) (a3 a4 : Option Addr) (m c3 c4 c : Nat) (w : World) (I : Nat → List Value) (S : Nat → Int) (hm : m ≤ 26214) (hcm : c ≤ m) (hf0 : 0 ≤ f) (hf1 : f < 18446744073709551616) (hS0 : ∀ i, 0 ≤ S i)
    (hA3 : ArrAt w a3 m 32 I) (hA4 : ArrAt w a4 m 1 (fun i => [.int .u64 (S i)])) (hI8 : ∀ i, i < m → Bytes8 (I i)) :
    Calls Try.prog 3 #[.int .u32 o, .int .u64 i, .int .u64 f, .slice a3 m c3, .slice a4 m c4, .int .i64 c] w fun e w' => e = .returned (.bool true) ∧ Below w.heap.size w w' := by
  have hm3 : m ≤ maxLen := by unfold maxLen; omega
  go_enter Try.func3, Try.ntmps3
  go_wp2_with (go_at_call 5; go_must (refine (bytes5 _ _ _ _ _ _ _ _ _ _ _ hm3 hm3).mono ?_))
  rintro e w1 ⟨⟨r, rfl⟩, rfl⟩
  cases r
  · go_wp2
    go_ret
    exact ⟨rfl, Below.refl _ _⟩
  · have hne : ((m : Int) != (m : Int)) = false := by simp
    go_wp2
    go_loop [14, 15, 16] (fun tx sk p => ∃ k : Nat, k ≤ c ∧ p = .int .i64 k ∧ tx = .int .u64 ((callsTo f S k).length : Nat) ∧ sk = .int .u64 (skipSum S k)) (fun _ _ p => c - (intOf p).toNat)
    case atStart => exact ⟨0, by omega, rfl, rfl, rfl⟩
    case round =>
      obtain ⟨k, hk, rfl, rfl, rfl⟩ := hrel
      have hcl := callsTo_le f S k
      by_cases hlt : k < c
      · obtain ⟨b4, o4, rfl, h4⟩ := hA4 (by omega)
        have h4k : w1.cell? ⟨b4, o4 + k, none⟩ = some (.int .u64 (S k)) := by
          have := (h4 k (by omega)).2 0 _ rfl
          simpa using this
        by_cases hs : 0 < S k
        · have hne : (S k == 0) = false := beq_eq_false_iff_ne.2 (by omega)
          go_wp2
          go_round
          case rel =>
            refine ⟨k + 1, by omega, by go_num, ?_, ?_⟩
            · simp [callsTo, hs]
            · simp [skipSum]
          case measure => simp [intOf]; omega
        · have hne : (S k == 0) = true := beq_iff_eq.2 (by have := hS0 k; omega)
          go_wp2
          go_round
          case rel =>
            refine ⟨k + 1, by omega, by go_num, ?_, ?_⟩
            · simp [callsTo, hs]
            · simp [skipSum]
          case measure => simp [intOf]; omega
      · obtain rfl : k = c := by omega
        go_wp2_with fail
        refine (items_at 0 m 0 m rfl rfl a3 a4 m c3 m c4 I S _ (by omega) (by omega) (by omega) (by omega) hA3 hA4 hI8).mono ?_
        rintro e w2 ⟨rfl, hi1, hb1, _⟩
        have hI32 := arr_len hA3
        go_wp2_with fail
        simp only [Nat.zero_add, Nat.sub_zero] at hi1
        refine (stamp_body w2 o i f _ m I S (by omega) hi1 (fun i hi => ⟨hI32 i hi, hI8 i hi⟩)).mono ?_
        rintro e w3 ⟨aIw, cIw, aSw, cSw, rfl, hIw, hSw, hb2⟩
        have hb3 := below_grew hb1 hb2
        replace hA3 := arr_below rfl hb3 (by decide) hA3
        replace hA4 := arr_below rfl hb3 (by decide) hA4
        clear hi1 hb1 hb2
        go_wp2_with fail
        refine (items_at 0 k 0 k rfl rfl a3 a4 m c3 m c4 I S _ (by omega) (by omega) (by omega) (by omega) hA3 hA4 hI8).mono ?_
        rintro e w4 ⟨rfl, hi1, hb1, _⟩
        go_wp2_with fail
        simp only [Nat.zero_add, Nat.sub_zero] at hi1
        refine (stamp_body w4 o i f _ k I S (by omega) hi1 (fun i hi => ⟨hI32 i (by omega), hI8 i (by omega)⟩)).mono ?_
        rintro e w5 ⟨aIh, cIh, aSh, cSh, rfl, hIh, hSh, hb2⟩
        have hb4 := below_grew hb1 hb2
        replace hA3 := arr_below rfl hb4 (by decide) hA3
        replace hA4 := arr_below rfl hb4 (by decide) hA4
        replace hIw := arr_below rfl hb4 (by decide) hIw
        replace hSw := arr_below rfl hb4 (by decide) hSw
        replace hb3 := below_grew hb3 hb4
        clear hi1 hb1 hb2 hb4
        go_wp2_with fail
        refine (items_at k m k m rfl rfl a3 a4 m c3 m c4 I S _ (by omega) (by omega) (by omega) (by omega) hA3 hA4 hI8).mono ?_
        rintro e w6 ⟨rfl, hi1, hb1, _⟩
        go_wp2_with fail
        rw [← stamp_closed f S hf0 hf1 hS0 k]
        refine (stamp_body w6 o _ (stampAt f S k) _ (m - k) (fun j => I (k + j)) (fun j => S (k + j)) (by omega) hi1 (fun i hi => ⟨hI32 _ (by omega), hI8 _ (by omega)⟩)).mono ?_
        rintro e w7 ⟨aIt, cIt, aSt, cSt, rfl, hIt, hSt, hb2⟩
        have hb4 := below_grew hb1 hb2
        replace hA3 := arr_below rfl hb4 (by decide) hA3
        replace hA4 := arr_below rfl hb4 (by decide) hA4
        replace hIw := arr_below rfl hb4 (by decide) hIw
        replace hSw := arr_below rfl hb4 (by decide) hSw
        replace hIh := arr_below rfl hb4 (by decide) hIh
        replace hSh := arr_below rfl hb4 (by decide) hSh
        replace hb3 := below_grew hb3 hb4
        clear hi1 hb1 hb2 hb4
        have hlen := cut_len f S k m (by omega)
        have hhead := fun j => cut_head f S k m j (by omega)
        have htail := fun j => cut_tail f S k m j (by omega)
        have hlm := callsTo_le f S m
        have C8 := fun q => closed8 (w7.drewN q) aIw aSw a3 a4 cIw cSw m c3 c4 f I S hf0 hf1 hS0 (by omega) (arr_drewN hIw q) (arr_drewN hSw q) (arr_drewN hA3 q) (arr_drewN hA4 q) hI8
        have hmem : ∀ j, j < (callsTo f S m).length → ((callsTo f S m).getD j (0, 0)).1 < m := fun j hj => callsTo_mem f S m _ (by rw [List.getD, List.getElem?_eq_getElem hj]; exact List.getElem_mem _)
        generalize hlt' : callsTo (stampAt f S k) (fun j => S (k + j)) (m - k) = lt at *
        generalize hlh : callsTo f S k = lh at *
        generalize hlw : callsTo f S m = lw at *
        have HH : Hid (∀ j, j < lh.length → lw.getD j (0, 0) = lh.getD j (0, 0)) := hhead
        have HT : Hid (∀ j, j < lt.length → lw.getD (lh.length + j) (0, 0) = (k + (lt.getD j (0, 0)).1, (lt.getD j (0, 0)).2)) := htail
        have HC8 : Hid (∀ q, Calls Try.prog 8 #[.slice aIw lw.length cIw, .slice aSw lw.length cSw, .int .u64 f, .slice a3 m c3, .slice a4 m c4] (w7.drewN q) fun e w' => e = .returned (.bool true) ∧ ∃ q', w' = (w7.drewN q).drewN q') := C8
        have HM : Hid (∀ j, j < lw.length → (I (lw.getD j (0, 0)).1).length = 32 ∧ Bytes8 (I (lw.getD j (0, 0)).1)) := fun j hj => ⟨hI32 _ (hmem j hj), hI8 _ (hmem j hj)⟩
        clear hhead htail C8 hlt' hlh hlw hmem hI32 hI8 hA3 hA4
        have hn1 : ((lh.length : Int) != (lh.length : Int)) = false := by simp
        have hn2 : ((lt.length : Int) != (lt.length : Int)) = false := by simp
        have hn3 : ((lw.length : Int) != (lw.length : Int)) = false := by simp
        have hn4 : ((lw.length : Int) != (lh.length : Int) + (lt.length : Int)) = false := by simp; omega
        have hl1 : lh.length + lt.length ≤ 26214 := by omega
        have HL : Hid (lw.length = lh.length + lt.length) := hlen
        clear hlen
        go_wp2
        go_loopw [23] (fun j wr => ∃ x q : Nat, x ≤ lh.length ∧ j = .int .i64 x ∧ wr = w7.drewN q) (fun j _ => lh.length - (intOf j).toNat)
        case atStart => exact ⟨0, 0, by omega, rfl, rfl⟩
        case round =>
          obtain ⟨x, q, hx, rfl, rfl⟩ := hrel
          by_cases hlt : x < lh.length
          · have hxw : x < lw.length := by rw [HL.out]; omega
            obtain ⟨bIw, oIw, rfl, rIw⟩ := hIw (by omega)
            obtain ⟨bSw, oSw, rfl, rSw⟩ := hSw (by omega)
            obtain ⟨bIh, oIh, rfl, rIh⟩ := hIh (by omega)
            obtain ⟨bSh, oSh, rfl, rSh⟩ := hSh (by omega)
            have q1 := (rIw x hxw).2
            have q2 := (rIh x hlt).2
            have q3 := (rSw x hxw).2 0 _ rfl
            have q4 := (rSh x hlt).2 0 _ rfl
            simp only [← HH.out x hlt, Nat.mul_one, Nat.add_zero] at q1 q2 q3 q4
            obtain ⟨h32, h8⟩ := HM.out x hxw
            generalize (lw.getD x (0, 0)).2 = v at q3 q4
            generalize I (lw.getD x (0, 0)).1 = P at q1 q2 h32 h8
            have hv : (v != v) = false := by simp
            clear rIw rSw rIh rSh hIw hSw hIh hSh
            go_wp2
            refine wp_region_quiet_lit (by kernel_rfl) (by kernel_rfl) ?_
            iterate 3 go_big_quiet_step (fail)
            refine wpQuiet_load_mid rfl 36 _ rfl bIw (oIw + x * 32) rfl P _ (fun y hy => ?hr) Try.underlying36 rfl ?hi ?_
            case hr => obtain ⟨n, rfl⟩ := hy; rw [World.drewN_drewN]; exact range_drewN q1 _
            case hi => rw [h32]; exact size36
            simp only [Act.put, List.setIfInBounds_toArray, List.set_cons_succ, List.set_cons_zero]
            iterate 3 go_big_quiet_step (fail)
            refine wpQuiet_load_mid rfl 36 _ rfl bIh (oIh + x * 32) rfl P _ (fun y hy => ?hr) Try.underlying36 rfl ?hi ?_
            case hr => obtain ⟨n, rfl⟩ := hy; rw [World.drewN_drewN]; exact range_drewN q2 _
            case hi => rw [h32]; exact size36
            simp only [Act.put, List.setIfInBounds_toArray, List.set_cons_succ, List.set_cons_zero]
            refine wpQuiet_neq_self rfl 36 36 _ _ rfl 5 32 Try.underlying36 Try.underlying5 sizeOf5 guard36 P h32 h8 rfl rfl ?_
            simp only [Act.put, List.setIfInBounds_toArray, List.set_cons_succ, List.set_cons_zero]
            repeat (go_big_quiet_step (fail))
            refine wpQuiet_nil ?_
            rintro _ ⟨nq, rfl⟩
            go_wp2
            go_roundw
            case rel => exact ⟨x + 1, q + nq, by omega, by go_num, by simp⟩
            case measure => simp [intOf]; omega
          · generalize q = q0
            go_wp2
            clear hx hlt
            go_loopw [24] (fun j wr => ∃ y q : Nat, y ≤ lt.length ∧ j = .int .i64 y ∧ wr = w7.drewN q) (fun j _ => lt.length - (intOf j).toNat)
            case atStart => exact ⟨0, q0, by omega, rfl, rfl⟩
            case round =>
              obtain ⟨y, q, hy, rfl, rfl⟩ := hrel
              by_cases hlt : y < lt.length
              · have hxw : lh.length + y < lw.length := by rw [HL.out]; omega
                obtain ⟨bIw, oIw, rfl, rIw⟩ := hIw (by omega)
                obtain ⟨bSw, oSw, rfl, rSw⟩ := hSw (by omega)
                obtain ⟨bIt, oIt, rfl, rIt⟩ := hIt (by omega)
                obtain ⟨bSt, oSt, rfl, rSt⟩ := hSt (by omega)
                have q1 := (rIw _ hxw).2
                have q2 := (rIt y hlt).2
                have q3 := (rSw _ hxw).2 0 _ rfl
                have q4 := (rSt y hlt).2 0 _ rfl
                obtain ⟨h32, h8⟩ := HM.out _ hxw
                simp only [HT.out y hlt, Nat.mul_one, Nat.add_zero] at q1 q2 q3 q4 h32 h8
                generalize (lt.getD y (0, 0)).2 = v at q3 q4
                generalize I (k + (lt.getD y (0, 0)).1) = P at q1 q2 h32 h8
                have hv : (v != v) = false := by simp
                clear rIw rSw rIt rSt hIw hSw hIt hSt
                have hl2 : lh.length ≤ 26214 := by omega
                have hxw' : (lh.length : Int) + (y : Int) < (lw.length : Int) := by omega
                go_wp2
                refine wp_region_quiet_lit (by kernel_rfl) (by kernel_rfl) ?_
                iterate 6 go_big_quiet_step (fail)
                refine wpQuiet_load_mid rfl 36 _ rfl bIw (oIw + (lh.length + y) * 32) rfl P _ (fun z hz => ?hr) Try.underlying36 rfl ?hi ?_
                case hr => obtain ⟨n, rfl⟩ := hz; rw [World.drewN_drewN]; exact range_drewN q1 _
                case hi => rw [h32]; exact size36
                simp only [Act.put, List.setIfInBounds_toArray, List.set_cons_succ, List.set_cons_zero]
                iterate 3 go_big_quiet_step (fail)
                refine wpQuiet_load_mid rfl 36 _ rfl bIt (oIt + y * 32) rfl P _ (fun z hz => ?hr) Try.underlying36 rfl ?hi ?_
                case hr => obtain ⟨n, rfl⟩ := hz; rw [World.drewN_drewN]; exact range_drewN q2 _
                case hi => rw [h32]; exact size36
                simp only [Act.put, List.setIfInBounds_toArray, List.set_cons_succ, List.set_cons_zero]
                refine wpQuiet_neq_self rfl 36 36 _ _ rfl 5 32 Try.underlying36 Try.underlying5 sizeOf5 guard36 P h32 h8 rfl rfl ?_
                simp only [Act.put, List.setIfInBounds_toArray, List.set_cons_succ, List.set_cons_zero]
                repeat (go_big_quiet_step (fail))
                refine wpQuiet_nil ?_
                rintro _ ⟨nq, rfl⟩
                go_wp2
                go_roundw
                case rel => exact ⟨y + 1, q + nq, by omega, by go_num, by simp⟩
                case measure => simp [intOf]; omega
              · go_wp2_with fail
                refine (HC8.out q).mono ?_
                rintro e w8 ⟨rfl, q', rfl⟩
                go_wp2
                go_ret
                exact ⟨rfl, by simpa using below_drewN (below_drewN hb3 q) q'⟩
end Go.Proofs.Qxb6615735a
