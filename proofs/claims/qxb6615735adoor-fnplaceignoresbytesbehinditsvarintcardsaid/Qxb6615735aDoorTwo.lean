import Derived.Test.Qxb6615735aDoorPlace
namespace Go.Proofs.Qxb6615735aDoor
open Go.RowKit
set_option linter.unusedSimpArgs false
set_option linter.unusedVariables false

theorem zzuvarint11v (w : World) (a : Option Addr) (n c v : Nat) (k : Int) (Z : Nat → Nat) (hn : n ≤ 1048576) (hZ : ∀ i, Z i < 256) (hA : RowAt w a n Z) (hv : uv Z n = (v, k)) :
    Calls Tryd.prog 11 #[.slice a n c] w fun e w' => e = .returned (.tuple #[.int .u64 (v : Int), .int .i64 k]) ∧ w' = w := by
  have := zzuvarint11 w a n c Z hn hZ hA
  rw [hv] at this
  exact this

/-- Behind the decoder's making only its block is written. -/
theorem only_below {w w' : World} {o : Obj} (h : Only w.heap.size (w.alloc o) w') : Below w.heap.size w w' :=
  ⟨h.os, h.tape, h.output, by rw [h.size]; simp, fun k hk => (h.block k (by omega)).trans (Below.heap_alloc _ _ _ hk)⟩

theorem below_grew {w w1 w2 : World} (h1 : Below w.heap.size w w1) (h2 : Below w1.heap.size w1 w2) : Below w.heap.size w w2 :=
  h1.trans (h2.mono h1.size)

theorem cell_below {w w' : World} (h : Below w.heap.size w w') {a : Addr} {v : Value} (hc : w.cell? a = some v) : w'.cell? a = some v :=
  (h.cell (World.block_lt_of_cell? w a hc)).trans hc

theorem row_none {w : World} {a : Option Addr} {n : Nat} {Z : Nat → Nat} (hA : RowAt w a n Z) (h : a = none) : n = 0 := by
  rcases Nat.eq_zero_or_pos n with h0 | h0
  · exact h0
  · obtain ⟨b, off, ha, _⟩ := hA h0
    rw [h] at ha
    cases ha

set_option maxHeartbeats 2000000 in
set_option maxRecDepth 100000 in
theorem walk3_bad (w : World) (a : Option Addr) (n c : Nat) (n1 n2 : Int) (hn : n ≤ maxLen) (h1 : -9223372036854775808 ≤ n1 ∧ n1 ≤ 9223372036854775807) (h2 : -9223372036854775808 ≤ n2 ∧ n2 ≤ 9223372036854775807) (hbad : ¬ (n ≤ 1048576 ∧ 0 ≤ n1 ∧ 0 ≤ n2)) :
    Calls Tryd.prog 3 #[.slice a n c, .int .i64 n1, .int .i64 n2] w fun e w' => e = .returned (.bool true) ∧ w' = w := by
  go_enter Tryd.func3, Tryd.ntmps3
  go_wp2_with (go_at_call 5; go_must (refine (bytes5 _ _ _ _ _ _ hn).mono ?_))
  rintro e w1 ⟨⟨r, rfl⟩, rfl⟩
  unfold maxLen at hn
  cases r
  · go_wp2
    go_ret
    exact ⟨rfl, rfl⟩
  · go_wp2_with fail
    all_goals
      go_ret
      exact ⟨rfl, rfl⟩

set_option maxHeartbeats 2000000 in
set_option maxRecDepth 100000 in
theorem walk3_good (w : World) (a : Option Addr) (n c : Nat) (n1 n2 : Int) (Z : Nat → Nat) (t : TypeId) (x : Value) (hn : n ≤ 1048576) (h1 : 0 ≤ n1 ∧ n1 ≤ 9223372036854775807) (h2 : 0 ≤ n2 ∧ n2 ≤ 9223372036854775807)
    (hZ : ∀ i, Z i < 256) (hA : RowAt w a n Z) (hE : w.cell? ⟨0, 0, none⟩ = some (.iface t x)) :
    Calls Tryd.prog 3 #[.slice a n c, .int .i64 n1, .int .i64 n2] w fun e w' => e = .returned (.bool true) ∧ Below w.heap.size w w' := by
  obtain ⟨h10, h11⟩ := h1
  obtain ⟨h20, h21⟩ := h2
  have hm : n ≤ maxLen := by unfold maxLen; omega
  have hw0 : 0 < w.heap.size := World.block_lt_of_cell? w _ hE
  go_enter Tryd.func3, Tryd.ntmps3
  go_wp2_with (go_at_call 5; go_must (refine (bytes5 _ _ _ _ _ _ hm).mono ?_))
  rintro e w1 ⟨⟨r, rfl⟩, rfl⟩
  clear hm
  cases r
  · go_wp2
    go_ret
    exact ⟨rfl, Below.refl _ _⟩
  · go_wp2_with fail
    refine (clone6 _ a n c Z hn hA (row_none hA)).mono ?_
    rintro e w2 ⟨ab, cb, rfl, hcb, hAb, hb1⟩
    go_wp2_with fail
    refine (clone6 _ ab n cb Z hn hAb (row_none hAb)).mono ?_
    rintro e w3 ⟨aw, cw, rfl, hcw, hAw, hb2⟩
    replace hAb := row_below hb2 hAb
    have hb3 := below_grew hb1 hb2
    replace hE := cell_below hb3 hE
    have hD0 : 0 < w3.heap.size := by have := hb3.size; omega
    clear hA hb1 hb2
    go_wp2_with fail
    refine (new7 _ ab n cb).mono ?_
    rintro e w4 ⟨rfl, hw4⟩
    have hd4 : DecAt w4 w3.heap.size (.slice ab n cb) .nilIface := by rw [hw4]; exact dec_new _ _ _
    have HO4 : Hid (∀ w', Only w3.heap.size w4 w' → Below w3.heap.size w3 w') := fun w' h => by rw [hw4] at h; exact only_below h
    have hb4 := HO4.out _ (Only.refl _ _)
    have hE4 := cell_below hb4 hE
    clear hw4
    have hAb4 := row_below hb4 hAb
    rcases uv_cases Z n with ⟨hk0, hv0⟩ | ⟨k0, hk1, hk2, _, _, _, hv⟩
    · -- no whole number
      have hv : uv Z n = (0, (uv Z n).2) := Prod.ext hv0 rfl
      generalize (uv Z n).2 = k at hv hk0
      clear hv0
      go_wp2_with fail
      refine (place8_short w4 w3.heap.size n1 ab n cb 0 k Z t x hn hZ hAb4 hv hk0 hE4 hd4).mono ?_
      rintro e w5 ⟨rfl, hw5⟩
      have hd5 : DecAt w5 w3.heap.size (.slice ab n cb) (.iface t x) := by rw [hw5]; exact hd4.set1 _
      have ho5 : Only w3.heap.size w4 w5 := by rw [hw5]; exact (Only.refl _ _).set _ _
      have hb5 := HO4.out _ ho5
      have hAb5 := row_below hb5 hAb
      have hAw5 := row_below hb5 hAw
      have hbe := below_grew hb3 hb5
      clear hw5 hd4 hE4 hb4 hAb4 ho5 hAb hAw hE hb3
      go_wp2_with fail
      refine (place8_err w5 w3.heap.size _ n2 t x hd5).mono ?_
      rintro e w6 ⟨rfl, rfl⟩
      go_wp2_with fail
      refine (rest9 _ w3.heap.size ab n cb _ hd5).mono ?_
      rintro e w7 ⟨rfl, rfl⟩
      go_wp2_with fail
      refine (err10 _ w3.heap.size _ _ hd5).mono ?_
      rintro e w8 ⟨rfl, rfl⟩
      go_wp2_with fail
      refine (zzuvarint11v _ aw n cw 0 k Z hn hZ hAw5 hv).mono ?_
      rintro e w9 ⟨rfl, rfl⟩
      go_wp2_with fail
      refine (same12 _ ab aw n cb cw Z Z hn hAb5 hAw5 (fun _ _ => rfl)).mono ?_
      rintro e wa ⟨rfl, q, rfl⟩
      go_wp2
      go_ret
      exact ⟨rfl, below_drewN hbe q⟩
    · -- a whole number
      obtain ⟨k, hk⟩ : ∃ k, k = k0 + 1 := ⟨_, rfl⟩
      have hvl := uv_lt Z n
      rw [hv] at hvl
      generalize psum Z k0 + Z k0 * 128 ^ k0 = v at hv hvl
      simp only at hvl
      replace hv : uv Z n = (v, (k : Int)) := by rw [hv, hk]; simp
      have hkp : 0 < k := by omega
      have hkn : k ≤ n := by omega
      clear hk hk1 hk2
      have hqa : (asI v == wrap64 (v : Int)) = true := by simp [asI]
      go_wp2_with fail
      refine (place8_good w4 w3.heap.size n1 ab n cb v k Z t x hn hcb hZ hAb4 hv hkp hkn h10 h11 hD0 hE4 hd4).mono ?_
      rintro e w5 ⟨rfl, a1, hd5, ho5, hr1, hr2⟩
      have hb5 := HO4.out _ ho5
      have hA1 : RowAt w5 a1 (n - k) (fun i => Z (k + i)) := hr1 _ _ (row_below hb5 hAb)
      have hAw5 := row_below hb5 hAw
      have hE5 := cell_below hb5 hE
      by_cases hb : n1 ≤ (v : Int)
      · -- past the table's end
        rw [errIf, if_pos hb] at hd5
        have hbe := below_grew hb3 hb5
        clear hd4 hE4 hb4 hAb4 ho5 hAb hAw hE hb3 hr1 hr2 HO4
        go_wp2_with fail
        refine (place8_err w5 w3.heap.size _ n2 t x hd5).mono ?_
        rintro e w6 ⟨rfl, rfl⟩
        go_wp2_with fail
        refine (rest9 _ w3.heap.size a1 (n - k) (cb - k) _ hd5).mono ?_
        rintro e w7 ⟨rfl, rfl⟩
        go_wp2_with fail
        refine (err10 _ w3.heap.size _ _ hd5).mono ?_
        rintro e w8 ⟨rfl, rfl⟩
        go_wp2_with fail
        refine (zzuvarint11v _ aw n cw v k Z hn hZ hAw5 hv).mono ?_
        rintro e w9 ⟨rfl, rfl⟩
        go_wp2_with (refine wpList_reslice rfl (.tmp 70) (.tmp 71) rfl aw n cw k rfl rfl hkn hcw ?_)
        intro aw' H1 H2
        have hAt := H1.out _ _ hAw5
        clear hAw5 hE5
        go_wp2_with fail
        refine (same12 _ a1 aw' (n - k) (cb - k) (cw - k) _ _ (by omega) hA1 hAt (fun _ _ => rfl)).mono ?_
        rintro e wa ⟨rfl, q, rfl⟩
        go_wp2
        go_ret
        exact ⟨rfl, below_drewN hbe q⟩
      · rw [errIf, if_neg hb] at hd5
        have hqb : (asI v == (v : Int)) = true := by simp [asI, wrap64_small _ (show (0 : Int) ≤ (v : Int) by omega) (by omega)]
        have hb' : (v : Int) < n1 := by omega
        have hZ1 : ∀ i, Z (k + i) < 256 := fun i => hZ _
        have hn1 : n - k ≤ 1048576 := by omega
        have hc1 : n - k ≤ cb - k := by omega
        clear hd4 hE4 hb4 hAb4 hb
        rcases uv_cases (fun i => Z (k + i)) (n - k) with ⟨hk0', hv0'⟩ | ⟨k0', hk1', hk2', _, _, _, hv2⟩
        · -- no second number
          have hv2 : uv (fun i => Z (k + i)) (n - k) = (0, (uv (fun i => Z (k + i)) (n - k)).2) := Prod.ext hv0' rfl
          generalize (uv (fun i => Z (k + i)) (n - k)).2 = k' at hv2 hk0'
          clear hv0'
          go_wp2_with fail
          refine (place8_short w5 w3.heap.size n2 a1 (n - k) (cb - k) 0 k' _ t x hn1 hZ1 hA1 hv2 hk0' hE5 hd5).mono ?_
          rintro e w6 ⟨rfl, hw6⟩
          have hd6 : DecAt w6 w3.heap.size (.slice a1 (n - k) (cb - k)) (.iface t x) := by rw [hw6]; exact hd5.set1 _
          have ho6 : Only w3.heap.size w5 w6 := by rw [hw6]; exact (Only.refl _ _).set _ _
          have hb6 := HO4.out _ (ho5.trans ho6)
          have hA6 : RowAt w6 a1 (n - k) (fun i => Z (k + i)) := hr1 _ _ (row_below hb6 hAb)
          have hAw6 := row_below hb6 hAw
          have hbe := below_grew hb3 hb6
          clear hw6 hd5 ho5 ho6 hAb hAw hE hE5 hb3 hr1 hr2 HO4 hA1 hAw5 hb5 hb6
          go_wp2_with fail
          refine (rest9 _ w3.heap.size a1 (n - k) (cb - k) _ hd6).mono ?_
          rintro e w7 ⟨rfl, rfl⟩
          go_wp2_with fail
          refine (err10 _ w3.heap.size _ _ hd6).mono ?_
          rintro e w8 ⟨rfl, rfl⟩
          go_wp2_with fail
          refine (zzuvarint11v _ aw n cw v k Z hn hZ hAw6 hv).mono ?_
          rintro e w9 ⟨rfl, rfl⟩
          go_wp2_with (refine wpList_reslice rfl (.tmp 70) (.tmp 71) rfl aw n cw k rfl rfl hkn hcw ?_)
          intro aw' H1 H2
          have hAt := H1.out _ _ hAw6
          clear hAw6
          go_wp2_with fail
          refine (zzuvarint11v _ aw' (n - k) (cw - k) 0 k' _ hn1 hZ1 hAt hv2).mono ?_
          rintro e wb ⟨rfl, rfl⟩
          go_wp2_with fail
          refine (same12 _ a1 aw' (n - k) (cb - k) (cw - k) _ _ hn1 hA6 hAt (fun _ _ => rfl)).mono ?_
          rintro e wa ⟨rfl, q, rfl⟩
          go_wp2
          go_ret
          exact ⟨rfl, below_drewN hbe q⟩
        · -- two numbers
          obtain ⟨k', hk'⟩ : ∃ k', k' = k0' + 1 := ⟨_, rfl⟩
          have hvl2 := uv_lt (fun i => Z (k + i)) (n - k)
          rw [hv2] at hvl2
          generalize psum (fun i => Z (k + i)) k0' + (fun i => Z (k + i)) k0' * 128 ^ k0' = v' at hv2 hvl2
          simp only at hvl2
          replace hv2 : uv (fun i => Z (k + i)) (n - k) = (v', (k' : Int)) := by rw [hv2, hk']; simp
          have hkp' : 0 < k' := by omega
          have hkn' : k' ≤ n - k := by omega
          clear hk' hk1' hk2'
          have hqa' : (asI v' == wrap64 (v' : Int)) = true := by simp [asI]
          go_wp2_with fail
          refine (place8_good w5 w3.heap.size n2 a1 (n - k) (cb - k) v' k' _ t x hn1 hc1 hZ1 hA1 hv2 hkp' hkn' h20 h21 hD0 hE5 hd5).mono ?_
          rintro e w6 ⟨rfl, a2, hd6, ho6, hs1, hs2⟩
          have hb6 := HO4.out _ (ho5.trans ho6)
          have hA6 : RowAt w6 a2 (n - k - k') (fun i => Z (k + (k' + i))) := hs1 _ _ (hr1 _ _ (row_below hb6 hAb))
          have hAw6 := row_below hb6 hAw
          have hbe := below_grew hb3 hb6
          clear hd5 ho5 ho6 hAb hAw hE hE5 hb3 hr1 hr2 HO4 hA1 hAw5 hb5 hb6 hs1 hs2
          have hn2 : n - k - k' ≤ 1048576 := by omega
          have hcw1 : n - k ≤ cw - k := by omega
          by_cases hbb : n2 ≤ (v' : Int)
          · rw [errIf, if_pos hbb] at hd6
            go_wp2_with fail
            refine (rest9 _ w3.heap.size a2 (n - k - k') (cb - k - k') _ hd6).mono ?_
            rintro e w7 ⟨rfl, rfl⟩
            go_wp2_with fail
            refine (err10 _ w3.heap.size _ _ hd6).mono ?_
            rintro e w8 ⟨rfl, rfl⟩
            go_wp2_with fail
            refine (zzuvarint11v _ aw n cw v k Z hn hZ hAw6 hv).mono ?_
            rintro e w9 ⟨rfl, rfl⟩
            go_wp2_with (refine wpList_reslice rfl (.tmp 70) (.tmp 71) rfl aw n cw k rfl rfl hkn hcw ?_)
            intro aw' H1 H2
            have hAt := H1.out _ _ hAw6
            clear hAw6
            go_wp2_with fail
            refine (zzuvarint11v _ aw' (n - k) (cw - k) v' k' _ hn1 hZ1 hAt hv2).mono ?_
            rintro e wb ⟨rfl, rfl⟩
            go_wp2_with (refine wpList_reslice rfl (.tmp 136) (.tmp 137) rfl aw' (n - k) (cw - k) k' rfl rfl hkn' hcw1 ?_)
            intro aw2 H3 H4
            have hAt2 := H3.out _ _ hAt
            clear hAt
            go_wp2_with fail
            refine (same12 _ a2 aw2 (n - k - k') (cb - k - k') (cw - k - k') _ _ hn2 hA6 hAt2 (fun _ _ => rfl)).mono ?_
            rintro e wa ⟨rfl, q, rfl⟩
            go_wp2
            go_ret
            exact ⟨rfl, below_drewN hbe q⟩
          · rw [errIf, if_neg hbb] at hd6
            have hqb' : (asI v' == (v' : Int)) = true := by simp [asI, wrap64_small _ (show (0 : Int) ≤ (v' : Int) by omega) (by omega)]
            have hdd : decide (n2 ≤ (v' : Int)) = false := by simp; omega
            go_wp2_with fail
            refine (rest9 _ w3.heap.size a2 (n - k - k') (cb - k - k') _ hd6).mono ?_
            rintro e w7 ⟨rfl, rfl⟩
            go_wp2_with fail
            refine (err10 _ w3.heap.size _ _ hd6).mono ?_
            rintro e w8 ⟨rfl, rfl⟩
            go_wp2_with fail
            refine (zzuvarint11v _ aw n cw v k Z hn hZ hAw6 hv).mono ?_
            rintro e w9 ⟨rfl, rfl⟩
            go_wp2_with (refine wpList_reslice rfl (.tmp 70) (.tmp 71) rfl aw n cw k rfl rfl hkn hcw ?_)
            intro aw' H1 H2
            have hAt := H1.out _ _ hAw6
            clear hAw6
            go_wp2_with fail
            refine (zzuvarint11v _ aw' (n - k) (cw - k) v' k' _ hn1 hZ1 hAt hv2).mono ?_
            rintro e wb ⟨rfl, rfl⟩
            go_wp2_with (refine wpList_reslice rfl (.tmp 136) (.tmp 137) rfl aw' (n - k) (cw - k) k' rfl rfl hkn' hcw1 ?_)
            intro aw2 H3 H4
            have hAt2 := H3.out _ _ hAt
            clear hAt
            go_wp2_with fail
            refine (same12 _ a2 aw2 (n - k - k') (cb - k - k') (cw - k - k') _ _ hn2 hA6 hAt2 (fun _ _ => rfl)).mono ?_
            rintro e wa ⟨rfl, q, rfl⟩
            go_wp2
            go_ret
            exact ⟨rfl, below_drewN hbe q⟩
end Go.Proofs.Qxb6615735aDoor
