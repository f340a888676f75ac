import Derived.Test.Qxb6615735aPlain
namespace Go.Proofs.Qxb6615735a
open Go.RowKit
set_option linter.unusedSimpArgs false
set_option linter.unusedVariables false

theorem guard36 : Try.prog.eqGuardType Try.prog.depth 36 = false := by kernel_rfl
theorem sizeOf5 (w : World) : (sizeOf 5).run Try.prog w = .ok 1 w := by kernel_rfl

theorem range_drewN {w : World} {b o : Nat} {cs : List Value} (h : w.rangeAt b o cs) (q : Nat) : (w.drewN q).rangeAt b o cs := fun j v hv => by simpa using h j v hv

set_option maxHeartbeats 1000000 in
theorem closed8 (w : World) (aI aS a3 a4 : Option Addr) (cI cS m c3 c4 : Nat) (first : Int) (I : Nat → List Value) (S : Nat → Int) (h0 : 0 ≤ first) (h1 : first < 18446744073709551616) (hS0 : ∀ i, 0 ≤ S i) (hm : m ≤ 32768)
    (hAI : ArrAt w aI (callsTo first S m).length 32 (fun j => I ((callsTo first S m).getD j (0, 0)).1)) (hAS : ArrAt w aS (callsTo first S m).length 1 (fun j => [.int .u64 ((callsTo first S m).getD j (0, 0)).2]))
    (hA3 : ArrAt w a3 m 32 I) (hA4 : ArrAt w a4 m 1 (fun i => [.int .u64 (S i)])) (hI8 : ∀ i, i < m → Bytes8 (I i)) :
    Calls Try.prog 8 #[.slice aI (callsTo first S m).length cI, .slice aS (callsTo first S m).length cS, .int .u64 first, .slice a3 m c3, .slice a4 m c4] w fun e w' => e = .returned (.bool true) ∧ ∃ q, w' = w.drewN q := by
  have hlm := callsTo_le first S m
  have hcl := stamp_closed first S h0 h1 hS0
  have HCL : Hid (∀ k, stampAt first S k = IntKind.u64.wrap (IntKind.u64.wrap (first + ((callsTo first S k).length : Int)) + skipSum S k)) := hcl
  generalize hL : (callsTo first S m).length = L at *
  clear hcl h0 h1
  go_enter Try.func8, Try.ntmps8
  go_wp2
  go_loopw [11, 12, 13] (fun j s p wr => ∃ (k q : Nat), k ≤ m ∧ p = .int .i64 k ∧ j = .int .i64 ((callsTo first S k).length : Nat) ∧ s = .int .u64 (skipSum S k) ∧ wr = w.drewN q)
    (fun _ _ p _ => m - (intOf p).toNat)
  case atStart => exact ⟨0, 0, by omega, rfl, rfl, rfl, rfl⟩
  case round =>
    obtain ⟨k, q, hk, rfl, rfl, rfl, rfl⟩ := hrel
    by_cases hlt : k < m
    · obtain ⟨b3, o3, rfl, h3⟩ := hA3 (by omega)
      obtain ⟨b4, o4, rfl, h4⟩ := hA4 (by omega)
      have h4k : w.cell? ⟨b4, o4 + k, none⟩ = some (.int .u64 (S k)) := by
        have := (h4 k hlt).2 0 _ rfl
        simpa using this
      by_cases hs : 0 < S k
      · have hne : (S k == 0) = false := beq_eq_false_iff_ne.2 (by omega)
        go_wp2
        go_roundw
        case rel =>
          refine ⟨k + 1, q, by omega, by go_num, ?_, ?_, rfl⟩
          · simp [callsTo, hs]
          · simp [skipSum]
        case measure => simp [intOf]; omega
      · have hne : (S k == 0) = true := beq_iff_eq.2 (by have := hS0 k; omega)
        obtain ⟨hjL, hjv⟩ := calls_at first S k m hlt hs
        rw [hL] at hjL
        obtain ⟨bI, oI, rfl, hI⟩ := hAI (by omega)
        obtain ⟨bS, oS, rfl, hSt⟩ := hAS (by omega)
        have hIk : (I k).length = 32 ∧ w.rangeAt bI (oI + (callsTo first S k).length * 32) (I k) := by
          have := hI _ hjL
          simp only [hjv] at this
          exact this
        have hSk : w.cell? ⟨bS, oS + (callsTo first S k).length, none⟩ = some (.int .u64 (IntKind.u64.wrap (IntKind.u64.wrap (first + ((callsTo first S k).length : Int)) + skipSum S k))) := by
          have := (hSt _ hjL).2 0 _ rfl
          simp only [hjv, HCL.out k] at this
          simpa using this
        have h3k := h3 k hlt
        have HC : Hid (callsTo first S (k + 1) = callsTo first S k ++ [(k, stampAt first S k)]) := show _ = _ by simp [callsTo, hs]
        have HK : Hid (skipSum S (k + 1) = IntKind.u64.wrap (skipSum S k + S k)) := rfl
        generalize hj : (callsTo first S k).length = j at *
        have HJ : Hid ((callsTo first S k).length = j) := hj
        have h8 := hI8 k hlt
        clear hj hjv hI hSt h3 h4 hA3 hA4 hAI hAS hI8 hS0
        have hj1 : j ≤ 32768 := by omega
        go_wp2
        refine wp_region_quiet_lit (by kernel_rfl) (by kernel_rfl) ?_
        iterate 3 go_big_quiet_step (fail)
        refine wpQuiet_load_mid rfl 36 _ rfl bI (oI + j * 32) rfl (I k) _ (fun x hx => ?hr) Try.underlying36 rfl ?hi ?_
        case hr => obtain ⟨n, rfl⟩ := hx; rw [World.drewN_drewN]; exact range_drewN hIk.2 _
        case hi => rw [hIk.1]; exact size36
        simp only [Act.put, List.setIfInBounds_toArray, List.set_cons_succ, List.set_cons_zero]
        iterate 3 go_big_quiet_step (fail)
        refine wpQuiet_load_mid rfl 35 _ rfl b3 (o3 + k * 32) rfl (I k) _ (fun x hx => ?hr) Try.underlying35 rfl ?hi ?_
        case hr => obtain ⟨n, rfl⟩ := hx; rw [World.drewN_drewN]; exact range_drewN h3k.2 _
        case hi => rw [hIk.1]; kernel_rfl
        simp only [Act.put, List.setIfInBounds_toArray, List.set_cons_succ, List.set_cons_zero]
        refine wpQuiet_neq_self rfl 36 36 _ _ rfl 5 32 Try.underlying36 Try.underlying5 sizeOf5 guard36 (I k) hIk.1 h8 rfl rfl ?_
        simp only [Act.put, List.setIfInBounds_toArray, List.set_cons_succ, List.set_cons_zero]
        repeat (go_big_quiet_step (fail))
        refine wpQuiet_nil ?_
        rintro _ ⟨nq, rfl⟩
        go_wp2
        go_roundw
        case rel =>
          refine ⟨k + 1, q + nq, by omega, by go_num, ?_, ?_, by simp⟩
          · rw [HC.out]
            simp [HJ.out]
          · rw [HK.out]
        case measure => simp [intOf]; omega
    · obtain rfl : k = m := by omega
      go_wp2
      go_ret
      exact ⟨rfl, q, rfl⟩
end Go.Proofs.Qxb6615735a
