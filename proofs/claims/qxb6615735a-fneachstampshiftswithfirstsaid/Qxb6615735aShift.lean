import Derived.Test.Qxb6615735aCut
namespace Go.Proofs.Qxb6615735a
open Go.RowKit
set_option linter.unusedSimpArgs false
set_option linter.unusedVariables false

set_option maxHeartbeats 1000000 in
set_option maxRecDepth 100000 in
theorem walk4_bad (o i o2 i2 f d : Int) (a3 a4 : Option Addr) (l3 c3 l4 c4 : Nat) (w : World) (h3 : l3 ≤ 9223372036854775807) (h4 : l4 ≤ 9223372036854775807) (hbad : ¬ (l3 ≤ 32768 ∧ l3 * 32 + l4 * 8 ≤ 1048576 ∧ l3 = l4)) :
    Calls Try.prog 4 #[.int .u32 o, .int .u64 i, .int .u32 o2, .int .u64 i2, .int .u64 f, .int .u64 d, .slice a3 l3 c3, .slice a4 l4 c4] w fun e w' => e = .returned (.bool true) ∧ w' = w := by
  have hm3 : l3 ≤ maxLen := by unfold maxLen; omega
  have hm4 : l4 ≤ maxLen := by unfold maxLen; omega
  go_enter Try.func4, Try.ntmps4
  go_wp2_with (go_at_call 9; go_must (refine (bytes9 _ _ _ _ _ _ _ _ _ _ _ _ _ hm3 hm4).mono ?_))
  rintro e w1 ⟨⟨r, rfl⟩, rfl⟩
  cases r
  · go_wp2
    go_ret
    exact ⟨rfl, rfl⟩
  · go_wp2_with fail
    all_goals first
      | (go_ret; exact ⟨rfl, rfl⟩)
      | (exfalso
         have h : ((l3 : Int) != (l4 : Int)) = false := by assumption
         simp at h
         omega)

theorem arr_congr {w : World} {a : Option Addr} {n sz : Nat} {I J : Nat → List Value} (h : ArrAt w a n sz I) (he : ∀ i, i < n → I i = J i) : ArrAt w a n sz J := fun hn => by
  obtain ⟨b, o, ha, hr⟩ := h hn
  exact ⟨b, o, ha, fun i hi => by rw [← he i hi]; exact hr i hi⟩

/-- What ZZeachStamp hands back, d stamps later. -/
def LaterPost (l : List (Nat × Int)) (d : Int) (I : Nat → List Value) (w : World) (e : Ending) (w' : World) : Prop :=
  ∃ aI cI aS cS, e = .returned (.tuple #[.slice aI l.length cI, .slice aS l.length cS]) ∧ ArrAt w' aI l.length 32 (fun j => I (l.getD j (0, 0)).1) ∧ ArrAt w' aS l.length 1 (fun j => [.int .u64 (IntKind.u64.wrap ((l.getD j (0, 0)).2 + d))]) ∧ Below w.heap.size w w'

theorem stamp_later_body (w2 : World) (o i f d : Int) (a : Option Addr) (n : Nat) (I : Nat → List Value) (S : Nat → Int) (hn : n ≤ 32768) (h0 : 0 ≤ f) (h1 : f < 18446744073709551616) (hA : ArrAt w2 a n 33 (itemCells I S)) (hI : ∀ i, i < n → (I i).length = 32 ∧ Bytes8 (I i)) :
    Calls Try.prog 6 #[.pointer (some ⟨w2.heap.size, 0, none⟩)] (w2.alloc (.cells #[.int .u32 o, .int .u64 i, .int .u64 (IntKind.u64.wrap (f + d)), .slice a n n] 34)) fun e w' => LaterPost (callsTo f S n) d I w2 e w' := by
  refine (stamp_body w2 o i _ a n I S hn hA hI).mono ?_
  rintro e w' ⟨aI, cI, aS, cS, rfl, hI', hS', hb⟩
  have hl : (callsTo (IntKind.u64.wrap (f + d)) S n).length = (callsTo f S n).length := by rw [calls_later f d S h0 h1]; simp
  have hg : ∀ j, j < (callsTo f S n).length → (callsTo (IntKind.u64.wrap (f + d)) S n).getD j (0, 0) = (((callsTo f S n).getD j (0, 0)).1, IntKind.u64.wrap (((callsTo f S n).getD j (0, 0)).2 + d)) := fun j hj => by
    rw [calls_later f d S h0 h1]
    simp [List.getD, List.getElem?_eq_getElem hj]
  rw [hl] at hI' hS'
  refine ⟨aI, cI, aS, cS, by rw [hl], arr_congr hI' (fun j hj => by simp only [hg j hj]), arr_congr hS' (fun j hj => by simp only [hg j hj]), hb⟩

set_option maxHeartbeats 2000000 in
set_option maxRecDepth 100000 in
theorem walk4_good (o i o2 i2 f d : Int) (a3 a4 : Option Addr) (m c3 c4 : Nat) (w : World) (I : Nat → List Value) (S : Nat → Int) (hm : m ≤ 26214) (hf0 : 0 ≤ f) (hf1 : f < 18446744073709551616) (hS0 : ∀ i, 0 ≤ S i)
    (hA3 : ArrAt w a3 m 32 I) (hA4 : ArrAt w a4 m 1 (fun i => [.int .u64 (S i)])) (hI8 : ∀ i, i < m → Bytes8 (I i)) :
    Calls Try.prog 4 #[.int .u32 o, .int .u64 i, .int .u32 o2, .int .u64 i2, .int .u64 f, .int .u64 d, .slice a3 m c3, .slice a4 m c4] w fun e w' => e = .returned (.bool true) ∧ Below w.heap.size w w' := by
  have hm3 : m ≤ maxLen := by unfold maxLen; omega
  go_enter Try.func4, Try.ntmps4
  go_wp2_with (go_at_call 9; go_must (refine (bytes9 _ _ _ _ _ _ _ _ _ _ _ _ _ hm3 hm3).mono ?_))
  rintro e w1 ⟨⟨r, rfl⟩, rfl⟩
  cases r
  · go_wp2
    go_ret
    exact ⟨rfl, Below.refl _ _⟩
  · have hne : ((m : Int) != (m : Int)) = false := by simp
    go_wp2_with fail
    refine (items_at 0 m 0 m rfl rfl a3 a4 m c3 m c4 I S _ (by omega) (by omega) (by omega) (by omega) hA3 hA4 hI8).mono ?_
    rintro e w2 ⟨rfl, hi1, hb1, _⟩
    have hI32 := arr_len hA3
    go_wp2_with fail
    simp only [Nat.zero_add, Nat.sub_zero] at hi1
    refine (stamp_body w2 o i f _ m I S (by omega) hi1 (fun i hi => ⟨hI32 i hi, hI8 i hi⟩)).mono ?_
    rintro e w3 ⟨aIw, cIw, aSw, cSw, rfl, hIw, hSw, hb2⟩
    have hb3 := below_grew hb1 hb2
    replace hA3 := arr_below rfl hb3 (by decide) hA3
    replace hA4 := arr_below rfl hb3 (by decide) hA4
    clear hi1 hb1 hb2
    go_wp2_with fail
    refine (items_at 0 m 0 m rfl rfl a3 a4 m c3 m c4 I S _ (by omega) (by omega) (by omega) (by omega) hA3 hA4 hI8).mono ?_
    rintro e w4 ⟨rfl, hi1, hb1, _⟩
    go_wp2_with fail
    simp only [Nat.zero_add, Nat.sub_zero] at hi1
    refine (stamp_later_body w4 o2 i2 f d _ m I S (by omega) hf0 hf1 hi1 (fun i hi => ⟨hI32 i (by omega), hI8 i (by omega)⟩)).mono ?_
    rintro e w5 ⟨aIh, cIh, aSh, cSh, rfl, hIh, hSh, hb2⟩
    have hb4 := below_grew hb1 hb2
    replace hA3 := arr_below rfl hb4 (by decide) hA3
    replace hA4 := arr_below rfl hb4 (by decide) hA4
    replace hIw := arr_below rfl hb4 (by decide) hIw
    replace hSw := arr_below rfl hb4 (by decide) hSw
    replace hb3 := below_grew hb3 hb4
    clear hi1 hb1 hb2 hb4
    have hlm := callsTo_le f S m
    have C8 := fun q => closed8 (w5.drewN q) aIw aSw a3 a4 cIw cSw m c3 c4 f I S hf0 hf1 hS0 (by omega) (arr_drewN hIw q) (arr_drewN hSw q) (arr_drewN hA3 q) (arr_drewN hA4 q) hI8
    have hmem : ∀ j, j < (callsTo f S m).length → ((callsTo f S m).getD j (0, 0)).1 < m := fun j hj => callsTo_mem f S m _ (by rw [List.getD, List.getElem?_eq_getElem hj]; exact List.getElem_mem _)
    generalize hlw : callsTo f S m = lw at *
    have HC8 : Hid (∀ q, Calls Try.prog 8 #[.slice aIw lw.length cIw, .slice aSw lw.length cSw, .int .u64 f, .slice a3 m c3, .slice a4 m c4] (w5.drewN q) fun e w' => e = .returned (.bool true) ∧ ∃ q', w' = (w5.drewN q).drewN q') := C8
    have HM : Hid (∀ j, j < lw.length → (I (lw.getD j (0, 0)).1).length = 32 ∧ Bytes8 (I (lw.getD j (0, 0)).1)) := fun j hj => ⟨hI32 _ (hmem j hj), hI8 _ (hmem j hj)⟩
    clear C8 hlw hmem hI32 hI8 hA3 hA4
    have hn3 : ((lw.length : Int) != (lw.length : Int)) = false := by simp
    have hl1 : lw.length ≤ 26214 := by omega
    go_wp2
    go_loopw [22] (fun j wr => ∃ x q : Nat, x ≤ lw.length ∧ j = .int .i64 x ∧ wr = w5.drewN q) (fun j _ => lw.length - (intOf j).toNat)
    case atStart => exact ⟨0, 0, by omega, rfl, rfl⟩
    case round =>
      obtain ⟨x, q, hx, rfl, rfl⟩ := hrel
      by_cases hlt : x < lw.length
      · obtain ⟨bIw, oIw, rfl, rIw⟩ := hIw (by omega)
        obtain ⟨bSw, oSw, rfl, rSw⟩ := hSw (by omega)
        obtain ⟨bIh, oIh, rfl, rIh⟩ := hIh (by omega)
        obtain ⟨bSh, oSh, rfl, rSh⟩ := hSh (by omega)
        have q1 := (rIw x hlt).2
        have q2 := (rIh x hlt).2
        have q3 := (rSw x hlt).2 0 _ rfl
        have q4 := (rSh x hlt).2 0 _ rfl
        simp only [Nat.mul_one, Nat.add_zero] at q1 q2 q3 q4
        obtain ⟨h32, h8⟩ := HM.out x hlt
        generalize (lw.getD x (0, 0)).2 = v at q3 q4
        generalize I (lw.getD x (0, 0)).1 = P at q1 q2 h32 h8
        have hv : (IntKind.u64.wrap (v + d) != IntKind.u64.wrap (v + d)) = false := by simp
        clear rIw rSw rIh rSh hIw hSw hIh hSh
        go_wp2
        refine wp_region_quiet_lit (by kernel_rfl) (by kernel_rfl) ?_
        iterate 3 go_big_quiet_step (fail)
        refine wpQuiet_load_mid rfl 36 _ rfl bIh (oIh + x * 32) rfl P _ (fun y hy => ?hr) Try.underlying36 rfl ?hi ?_
        case hr => obtain ⟨n, rfl⟩ := hy; rw [World.drewN_drewN]; exact range_drewN q2 _
        case hi => rw [h32]; exact size36
        simp only [Act.put, List.setIfInBounds_toArray, List.set_cons_succ, List.set_cons_zero]
        iterate 3 go_big_quiet_step (fail)
        refine wpQuiet_load_mid rfl 36 _ rfl bIw (oIw + x * 32) rfl P _ (fun y hy => ?hr) Try.underlying36 rfl ?hi ?_
        case hr => obtain ⟨n, rfl⟩ := hy; rw [World.drewN_drewN]; exact range_drewN q1 _
        case hi => rw [h32]; exact size36
        simp only [Act.put, List.setIfInBounds_toArray, List.set_cons_succ, List.set_cons_zero]
        refine wpQuiet_neq_self rfl 36 36 _ _ rfl 5 32 Try.underlying36 Try.underlying5 sizeOf5 guard36 P h32 h8 rfl rfl ?_
        simp only [Act.put, List.setIfInBounds_toArray, List.set_cons_succ, List.set_cons_zero]
        repeat (go_big_quiet_step (fail))
        refine wpQuiet_nil ?_
        rintro _ ⟨nq, rfl⟩
        go_wp2
        go_roundw
        case rel => exact ⟨x + 1, q + nq, by omega, by go_num, by simp⟩
        case measure => simp [intOf]; omega
      · go_wp2_with fail
        refine (HC8.out q).mono ?_
        rintro e w8 ⟨rfl, q', rfl⟩
        go_wp2
        go_ret
        exact ⟨rfl, by simpa using below_drewN (below_drewN hb3 q) q'⟩
end Go.Proofs.Qxb6615735a
