import Derived.Test.Qxb6615735aDoorTwo
namespace Go.Proofs.Qxb6615735aDoor
open Go.RowKit
set_option linter.unusedSimpArgs false
set_option linter.unusedVariables false

set_option maxHeartbeats 2000000 in
set_option maxRecDepth 100000 in
theorem walk4_bad (w : World) (a a' : Option Addr) (n c m c' : Nat) (N : Int) (hn : n ≤ maxLen) (hm : m ≤ maxLen) (h1 : -9223372036854775808 ≤ N ∧ N ≤ 9223372036854775807) (hbad : ¬ (n ≤ 524288 ∧ m ≤ 524288 ∧ 0 ≤ N)) :
    Calls Tryd.prog 4 #[.slice a n c, .slice a' m c', .int .i64 N] w fun e w' => e = .returned (.bool true) ∧ w' = w := by
  go_enter Tryd.func4, Tryd.ntmps4
  go_wp2_with (go_at_call 13; go_must (refine (bytes13 _ _ _ _ _ _ _ _ hn hm).mono ?_))
  rintro e w1 ⟨⟨r, rfl⟩, rfl⟩
  unfold maxLen at hn hm
  cases r
  · go_wp2
    go_ret
    exact ⟨rfl, rfl⟩
  · go_wp2_with fail
    all_goals
      go_ret
      exact ⟨rfl, rfl⟩

theorem row_drewN {w : World} {a : Option Addr} {n : Nat} {Z : Nat → Nat} (h : RowAt w a n Z) (q : Nat) : RowAt (w.drewN q) a n Z := fun hn => by
  obtain ⟨b, off, ha, hc⟩ := h hn
  exact ⟨b, off, ha, fun i hi => by simpa using hc i hi⟩

theorem catZ_lt {n : Nat} {Z Y : Nat → Nat} (hZ : ∀ i, Z i < 256) (hY : ∀ i, Y i < 256) (i : Nat) : catZ n Z Y i < 256 := by
  unfold catZ
  split
  · exact hZ i
  · exact hY _

set_option maxHeartbeats 4000000 in
set_option maxRecDepth 100000 in
theorem walk4_good (w : World) (a a' : Option Addr) (n c m c' : Nat) (N : Int) (Z Y : Nat → Nat) (t : TypeId) (x : Value) (hn : n ≤ 524288) (hm : m ≤ 524288) (h1 : 0 ≤ N ∧ N ≤ 9223372036854775807)
    (hZ : ∀ i, Z i < 256) (hY : ∀ i, Y i < 256) (hA : RowAt w a n Z) (hB : RowAt w a' m Y) (hE : w.cell? ⟨0, 0, none⟩ = some (.iface t x)) :
    Calls Tryd.prog 4 #[.slice a n c, .slice a' m c', .int .i64 N] w fun e w' => e = .returned (.bool true) ∧ Below w.heap.size w w' := by
  obtain ⟨h10, h11⟩ := h1
  have hm1 : n ≤ maxLen := by unfold maxLen; omega
  have hm2 : m ≤ maxLen := by unfold maxLen; omega
  have hw0 : 0 < w.heap.size := World.block_lt_of_cell? w _ hE
  go_enter Tryd.func4, Tryd.ntmps4
  go_wp2_with (go_at_call 13; go_must (refine (bytes13 _ _ _ _ _ _ _ _ hm1 hm2).mono ?_))
  rintro e w1 ⟨⟨r, rfl⟩, rfl⟩
  clear hm1 hm2
  cases r
  · go_wp2
    go_ret
    exact ⟨rfl, Below.refl _ _⟩
  · go_wp2_with fail
    refine (clone6 _ a n c Z (by omega) hA (row_none hA)).mono ?_
    rintro e w2 ⟨ab, cb, rfl, hcb, hAb, hb1⟩
    replace hB := row_below hb1 hB
    go_wp2_with fail
    refine (clone6 _ a' m c' Y (by omega) hB (row_none hB)).mono ?_
    rintro e w3 ⟨ac, cc, rfl, hcc, hAc, hb2⟩
    replace hAb := row_below hb2 hAb
    replace hb1 := below_grew hb1 hb2
    clear hb2
    go_wp2_with fail
    refine (clone6 _ ab n cb Z (by omega) hAb (row_none hAb)).mono ?_
    rintro e w4 ⟨aw, cw, rfl, hcw, hAw, hb2⟩
    replace hAb := row_below hb2 hAb
    replace hAc := row_below hb2 hAc
    replace hb1 := below_grew hb1 hb2
    clear hb2
    go_wp2_with fail
    refine (concat14 _ ab ac n cb m cc Z Y (by omega) (by omega) hAb hAc).mono ?_
    rintro e w5 ⟨aj, cj, rfl, hcj, hAj, hb2⟩
    replace hAb := row_below hb2 hAb
    replace hAc := row_below hb2 hAc
    replace hAw := row_below hb2 hAw
    replace hb1 := below_grew hb1 hb2
    clear hb2
    go_wp2_with fail
    refine (concat14 _ ab ac n cb m cc Z Y (by omega) (by omega) hAb hAc).mono ?_
    rintro e w6 ⟨ai, ci, rfl, hci, hAi, hb2⟩
    replace hAb := row_below hb2 hAb
    replace hAw := row_below hb2 hAw
    replace hAj := row_below hb2 hAj
    replace hb1 := below_grew hb1 hb2
    replace hE := cell_below hb1 hE
    have hD0 : 0 < w6.heap.size := by have := hb1.size; omega
    clear hb2 hA hB hAc
    have hJ := catZ_lt (n := n) hZ hY
    have hpre : ∀ i, i < n → Z i = catZ n Z Y i := fun i hi => by simp [catZ, hi]
    have HM : Hid (0 < (uv Z n).2 → uv (catZ n Z Y) (n + m) = uv Z n) := fun h => uv_more hpre (by omega) h
    clear hpre hY
    generalize catZ n Z Y = J at *
    have hnm : n + m ≤ 1048576 := by omega
    have hn' : n ≤ 1048576 := by omega
    go_wp2_with fail
    refine (new7 _ ab n cb).mono ?_
    rintro e w7 ⟨rfl, hw7⟩
    have hd7 : DecAt w7 w6.heap.size (.slice ab n cb) .nilIface := by rw [hw7]; exact dec_new _ _ _
    have HO7 : Hid (∀ w', Only w6.heap.size w7 w' → Below w6.heap.size w6 w') := fun w' h => by rw [hw7] at h; exact only_below h
    have hb7 := HO7.out _ (Only.refl _ _)
    have hE7 := cell_below hb7 hE
    have hAb7 := row_below hb7 hAb
    clear hw7
    rcases uv_cases Z n with ⟨hk0, hv0⟩ | ⟨k0, hk1, hk2, _, _, _, hv⟩
    · -- no whole number in b
      have hv : uv Z n = (0, (uv Z n).2) := Prod.ext hv0 rfl
      generalize (uv Z n).2 = k at hv hk0
      clear hv0 HM
      go_wp2_with fail
      refine (place8_short w7 w6.heap.size N ab n cb 0 k Z t x hn' hZ hAb7 hv hk0 hE7 hd7).mono ?_
      rintro e w8 ⟨rfl, hw8⟩
      have hd8 : DecAt w8 w6.heap.size (.slice ab n cb) (.iface t x) := by rw [hw8]; exact hd7.set1 _
      have ho8 : Only w6.heap.size w7 w8 := by rw [hw8]; exact (Only.refl _ _).set _ _
      have hb8 := HO7.out _ ho8
      have hE8 := cell_below hb8 hE
      have hAb8 := row_below hb8 hAb
      have hAw8 := row_below hb8 hAw
      have hAj8 := row_below hb8 hAj
      have hAi8 := row_below hb8 hAi
      have hbw := below_grew hb1 hb8
      clear hw8 hd7 hE7 hb7 hAb7 ho8 hAb hAw hAj hAi hE hb1 HO7
      go_wp2_with fail
      refine (rest9 _ w6.heap.size ab n cb _ hd8).mono ?_
      rintro e wx ⟨rfl, hwx⟩
      rw [hwx]
      clear hwx wx
      go_wp2_with fail
      refine (err10 _ w6.heap.size _ _ hd8).mono ?_
      rintro e wx ⟨rfl, hwx⟩
      rw [hwx]
      clear hwx wx
      clear hd8
      go_wp2_with fail
      refine (new7 _ ai (n + m) ci).mono ?_
      rintro e w9 ⟨rfl, hw9⟩
      have hd9 : DecAt w9 w8.heap.size (.slice ai (n + m) ci) .nilIface := by rw [hw9]; exact dec_new _ _ _
      have HO9 : Hid (∀ w', Only w8.heap.size w9 w' → Below w8.heap.size w8 w') := fun w' h => by rw [hw9] at h; exact only_below h
      have hb9 := HO9.out _ (Only.refl _ _)
      have hE9 := cell_below hb9 hE8
      have hAi9 := row_below hb9 hAi8
      have hD2 : 0 < w8.heap.size := by have := hb8.size; omega
      clear hw9
      rcases uv_cases J (n + m) with ⟨hj0, hv0'⟩ | ⟨j0, hj1, hj2, _, _, _, hvj⟩
      · have hvj : uv J (n + m) = (0, (uv J (n + m)).2) := Prod.ext hv0' rfl
        generalize (uv J (n + m)).2 = kj at hvj hj0
        clear hv0'
        go_wp2_with fail
        refine (place8_short w9 w8.heap.size N ai (n + m) ci 0 kj J t x hnm hJ hAi9 hvj hj0 hE9 hd9).mono ?_
        rintro e wa ⟨rfl, hwa⟩
        have hda : DecAt wa w8.heap.size (.slice ai (n + m) ci) (.iface t x) := by rw [hwa]; exact hd9.set1 _
        have hoa : Only w8.heap.size w9 wa := by rw [hwa]; exact (Only.refl _ _).set _ _
        have hba := HO9.out _ hoa
        have hAba := row_below hba hAb8
        have hAwa := row_below hba hAw8
        have hAja := row_below hba hAj8
        have hAia := row_below hba hAi8
        have hbe := below_grew hbw hba
        clear hwa hd9 hE9 hb9 hAi9 hoa hAb8 hAw8 hAj8 hAi8 hE8 hbw HO9 hb8 hba
        go_wp2_with fail
        refine (rest9 _ w8.heap.size ai (n + m) ci _ hda).mono ?_
        rintro e wx ⟨rfl, hwx⟩
        rw [hwx]
        clear hwx wx
        go_wp2_with fail
        refine (err10 _ w8.heap.size _ _ hda).mono ?_
        rintro e wx ⟨rfl, hwx⟩
        rw [hwx]
        clear hwx wx
        clear hda
        go_wp2_with fail
        refine (zzuvarint11v _ aw n cw 0 k Z hn' hZ hAwa hv).mono ?_
        rintro e wx ⟨rfl, hwx⟩
        rw [hwx]
        clear hwx wx
        go_wp2_with fail
        refine (same12 _ ab aw n cb cw Z Z hn' hAba hAwa (fun _ _ => rfl)).mono ?_
        rintro e wx ⟨rfl, q, rfl⟩
        go_wp2_with fail
        refine (zzuvarint11v _ aj (n + m) cj 0 kj J hnm hJ (row_drewN hAja q) hvj).mono ?_
        rintro e wx ⟨rfl, hwx⟩
        rw [hwx]
        clear hwx wx
        go_wp2_with fail
        refine (same12 _ ai aj (n + m) ci cj J J hnm (row_drewN hAia q) (row_drewN hAja q) (fun _ _ => rfl)).mono ?_
        rintro e wx ⟨rfl, q', rfl⟩
        go_wp2
        go_ret
        exact ⟨rfl, by simpa using below_drewN (below_drewN hbe q) q'⟩
      · obtain ⟨k', hk'⟩ : ∃ k', k' = j0 + 1 := ⟨_, rfl⟩
        have hvl := uv_lt J (n + m)
        rw [hvj] at hvl
        generalize psum J j0 + J j0 * 128 ^ j0 = v at hvj hvl
        simp only at hvl
        replace hvj : uv J (n + m) = (v, (k' : Int)) := by rw [hvj, hk']; simp
        have hkp' : 0 < k' := by omega
        have hkn' : k' ≤ n + m := by omega
        clear hk' hj1 hj2
        have hqa : (asI v == wrap64 (v : Int)) = true := by simp [asI]
        go_wp2_with fail
        refine (place8_good w9 w8.heap.size N ai (n + m) ci v k' J t x hnm hci hJ hAi9 hvj hkp' hkn' h10 h11 hD2 hE9 hd9).mono ?_
        rintro e wa ⟨rfl, a2, hda, hoa, hs1, hs2⟩
        have hba := HO9.out _ hoa
        have hAba := row_below hba hAb8
        have hAwa := row_below hba hAw8
        have hAja := row_below hba hAj8
        have hA2 : RowAt wa a2 (n + m - k') (fun i => J (k' + i)) := hs1 _ _ (row_below hba hAi8)
        have hbe := below_grew hbw hba
        have hnk : n + m - k' ≤ 1048576 := by omega
        clear hd9 hE9 hb9 hAi9 hoa hAb8 hAw8 hAj8 hAi8 hE8 hbw HO9 hb8 hba hs1 hs2
        by_cases hbb : N ≤ (v : Int)
        · rw [errIf, if_pos hbb] at hda
          go_wp2_with fail
          refine (rest9 _ w8.heap.size a2 (n + m - k') (ci - k') _ hda).mono ?_
          rintro e wx ⟨rfl, hwx⟩
          rw [hwx]
          clear hwx wx
          go_wp2_with fail
          refine (err10 _ w8.heap.size _ _ hda).mono ?_
          rintro e wx ⟨rfl, hwx⟩
          rw [hwx]
          clear hwx wx
          clear hda
          go_wp2_with fail
          refine (zzuvarint11v _ aw n cw 0 k Z hn' hZ hAwa hv).mono ?_
          rintro e wx ⟨rfl, hwx⟩
          rw [hwx]
          clear hwx wx
          go_wp2_with fail
          refine (same12 _ ab aw n cb cw Z Z hn' hAba hAwa (fun _ _ => rfl)).mono ?_
          rintro e wx ⟨rfl, q, rfl⟩
          go_wp2_with fail
          refine (zzuvarint11v _ aj (n + m) cj v k' J hnm hJ (row_drewN hAja q) hvj).mono ?_
          rintro e wx ⟨rfl, hwx⟩
          rw [hwx]
          clear hwx wx
          go_wp2_with (refine wpList_reslice rfl (.tmp 158) (.tmp 159) rfl aj (n + m) cj k' rfl rfl hkn' hcj ?_)
          intro aj2 H3 H4
          have hAt := H3.out _ _ (row_drewN hAja q)
          go_wp2_with fail
          refine (same12 _ a2 aj2 (n + m - k') (ci - k') (cj - k') _ _ hnk (row_drewN hA2 q) hAt (fun _ _ => rfl)).mono ?_
          rintro e wx ⟨rfl, q', rfl⟩
          go_wp2
          go_ret
          exact ⟨rfl, by simpa using below_drewN (below_drewN hbe q) q'⟩
        · rw [errIf, if_neg hbb] at hda
          have hqb : (asI v == (v : Int)) = true := by simp [asI, wrap64_small _ (show (0 : Int) ≤ (v : Int) by omega) (by omega)]
          have hdd : decide (N ≤ (v : Int)) = false := by simp; omega
          go_wp2_with fail
          refine (rest9 _ w8.heap.size a2 (n + m - k') (ci - k') _ hda).mono ?_
          rintro e wx ⟨rfl, hwx⟩
          rw [hwx]
          clear hwx wx
          go_wp2_with fail
          refine (err10 _ w8.heap.size _ _ hda).mono ?_
          rintro e wx ⟨rfl, hwx⟩
          rw [hwx]
          clear hwx wx
          clear hda
          go_wp2_with fail
          refine (zzuvarint11v _ aw n cw 0 k Z hn' hZ hAwa hv).mono ?_
          rintro e wx ⟨rfl, hwx⟩
          rw [hwx]
          clear hwx wx
          go_wp2_with fail
          refine (same12 _ ab aw n cb cw Z Z hn' hAba hAwa (fun _ _ => rfl)).mono ?_
          rintro e wx ⟨rfl, q, rfl⟩
          go_wp2_with fail
          refine (zzuvarint11v _ aj (n + m) cj v k' J hnm hJ (row_drewN hAja q) hvj).mono ?_
          rintro e wx ⟨rfl, hwx⟩
          rw [hwx]
          clear hwx wx
          go_wp2_with (refine wpList_reslice rfl (.tmp 158) (.tmp 159) rfl aj (n + m) cj k' rfl rfl hkn' hcj ?_)
          intro aj2 H3 H4
          have hAt := H3.out _ _ (row_drewN hAja q)
          go_wp2_with fail
          refine (same12 _ a2 aj2 (n + m - k') (ci - k') (cj - k') _ _ hnk (row_drewN hA2 q) hAt (fun _ _ => rfl)).mono ?_
          rintro e wx ⟨rfl, q', rfl⟩
          go_wp2
          go_ret
          exact ⟨rfl, by simpa using below_drewN (below_drewN hbe q) q'⟩
    · -- a whole number in b
      obtain ⟨k, hk⟩ : ∃ k, k = k0 + 1 := ⟨_, rfl⟩
      have hvl := uv_lt Z n
      rw [hv] at hvl
      generalize psum Z k0 + Z k0 * 128 ^ k0 = v at hv hvl
      simp only at hvl
      replace hv : uv Z n = (v, (k : Int)) := by rw [hv, hk]; simp
      have hkp : 0 < k := by omega
      have hkn : k ≤ n := by omega
      have hvj : uv J (n + m) = (v, (k : Int)) := by rw [HM.out (by rw [hv]; simp only; omega)]; exact hv
      have hkj : k ≤ n + m := by omega
      clear hk hk1 hk2 HM
      have hqa : (asI v == wrap64 (v : Int)) = true := by simp [asI]
      go_wp2_with fail
      refine (place8_good w7 w6.heap.size N ab n cb v k Z t x hn' hcb hZ hAb7 hv hkp hkn h10 h11 hD0 hE7 hd7).mono ?_
      rintro e w8 ⟨rfl, a1, hd8, ho8, hr1, hr2⟩
      have hb8 := HO7.out _ ho8
      have hE8 := cell_below hb8 hE
      have hA18 : RowAt w8 a1 (n - k) (fun i => Z (k + i)) := hr1 _ _ (row_below hb8 hAb)
      have hAw8 := row_below hb8 hAw
      have hAj8 := row_below hb8 hAj
      have hAi8 := row_below hb8 hAi
      have hbw := below_grew hb1 hb8
      have hnk : n - k ≤ 1048576 := by omega
      have hnj : n + m - k ≤ 1048576 := by omega
      clear hd7 hE7 hb7 hAb7 ho8 hAb hAw hAj hAi hE hb1 HO7 hr1 hr2
      by_cases hbb : N ≤ (v : Int)
      · rw [errIf, if_pos hbb] at hd8
        go_wp2_with fail
        refine (rest9 _ w6.heap.size a1 (n - k) (cb - k) _ hd8).mono ?_
        rintro e wx ⟨rfl, hwx⟩
        rw [hwx]
        clear hwx wx
        go_wp2_with fail
        refine (err10 _ w6.heap.size _ _ hd8).mono ?_
        rintro e wx ⟨rfl, hwx⟩
        rw [hwx]
        clear hwx wx
        clear hd8
        go_wp2_with fail
        refine (new7 _ ai (n + m) ci).mono ?_
        rintro e w9 ⟨rfl, hw9⟩
        have hd9 : DecAt w9 w8.heap.size (.slice ai (n + m) ci) .nilIface := by rw [hw9]; exact dec_new _ _ _
        have HO9 : Hid (∀ w', Only w8.heap.size w9 w' → Below w8.heap.size w8 w') := fun w' h => by rw [hw9] at h; exact only_below h
        have hb9 := HO9.out _ (Only.refl _ _)
        have hE9 := cell_below hb9 hE8
        have hAi9 := row_below hb9 hAi8
        have hD2 : 0 < w8.heap.size := by have := hb8.size; omega
        clear hw9
        go_wp2_with fail
        refine (place8_good w9 w8.heap.size N ai (n + m) ci v k J t x hnm hci hJ hAi9 hvj hkp hkj h10 h11 hD2 hE9 hd9).mono ?_
        rintro e wa ⟨rfl, a2, hda, hoa, hs1, hs2⟩
        have hba := HO9.out _ hoa
        have hA1a := row_below hba hA18
        have hAwa := row_below hba hAw8
        have hAja := row_below hba hAj8
        have hA2 : RowAt wa a2 (n + m - k) (fun i => J (k + i)) := hs1 _ _ (row_below hba hAi8)
        have hbe := below_grew hbw hba
        clear hd9 hE9 hb9 hAi9 hoa hA18 hAw8 hAj8 hAi8 hE8 hbw HO9 hb8 hba hs1 hs2
        rw [errIf, if_pos hbb] at hda
        go_wp2_with fail
        refine (rest9 _ w8.heap.size a2 (n + m - k) (ci - k) _ hda).mono ?_
        rintro e wx ⟨rfl, hwx⟩
        rw [hwx]
        clear hwx wx
        go_wp2_with fail
        refine (err10 _ w8.heap.size _ _ hda).mono ?_
        rintro e wx ⟨rfl, hwx⟩
        rw [hwx]
        clear hwx wx
        clear hda
        go_wp2_with fail
        refine (zzuvarint11v _ aw n cw v k Z hn' hZ hAwa hv).mono ?_
        rintro e wx ⟨rfl, hwx⟩
        rw [hwx]
        clear hwx wx
        go_wp2_with (refine wpList_reslice rfl (.tmp 103) (.tmp 104) rfl aw n cw k rfl rfl hkn hcw ?_)
        intro aw2 H1 H2
        have hAt := H1.out _ _ hAwa
        go_wp2_with fail
        refine (same12 _ a1 aw2 (n - k) (cb - k) (cw - k) _ _ hnk hA1a hAt (fun _ _ => rfl)).mono ?_
        rintro e wx ⟨rfl, q, rfl⟩
        go_wp2_with (refine wpList_reslice rfl (.tmp 110) (.tmp 111) rfl aj (n + m) cj k rfl rfl hkj hcj ?_)
        intro aj2 H3 H4
        have hAt2 := H3.out _ _ (row_drewN hAja q)
        go_wp2_with fail
        refine (same12 _ a2 aj2 (n + m - k) (ci - k) (cj - k) _ _ hnj (row_drewN hA2 q) hAt2 (fun _ _ => rfl)).mono ?_
        rintro e wx ⟨rfl, q', rfl⟩
        go_wp2
        go_ret
        exact ⟨rfl, by simpa using below_drewN (below_drewN hbe q) q'⟩
      · rw [errIf, if_neg hbb] at hd8
        have hqb : (asI v == (v : Int)) = true := by simp [asI, wrap64_small _ (show (0 : Int) ≤ (v : Int) by omega) (by omega)]
        have hdd : decide (N ≤ (v : Int)) = false := by simp; omega
        go_wp2_with fail
        refine (rest9 _ w6.heap.size a1 (n - k) (cb - k) _ hd8).mono ?_
        rintro e wx ⟨rfl, hwx⟩
        rw [hwx]
        clear hwx wx
        go_wp2_with fail
        refine (err10 _ w6.heap.size _ _ hd8).mono ?_
        rintro e wx ⟨rfl, hwx⟩
        rw [hwx]
        clear hwx wx
        clear hd8
        go_wp2_with fail
        refine (new7 _ ai (n + m) ci).mono ?_
        rintro e w9 ⟨rfl, hw9⟩
        have hd9 : DecAt w9 w8.heap.size (.slice ai (n + m) ci) .nilIface := by rw [hw9]; exact dec_new _ _ _
        have HO9 : Hid (∀ w', Only w8.heap.size w9 w' → Below w8.heap.size w8 w') := fun w' h => by rw [hw9] at h; exact only_below h
        have hb9 := HO9.out _ (Only.refl _ _)
        have hE9 := cell_below hb9 hE8
        have hAi9 := row_below hb9 hAi8
        have hD2 : 0 < w8.heap.size := by have := hb8.size; omega
        clear hw9
        go_wp2_with fail
        refine (place8_good w9 w8.heap.size N ai (n + m) ci v k J t x hnm hci hJ hAi9 hvj hkp hkj h10 h11 hD2 hE9 hd9).mono ?_
        rintro e wa ⟨rfl, a2, hda, hoa, hs1, hs2⟩
        have hba := HO9.out _ hoa
        have hA1a := row_below hba hA18
        have hAwa := row_below hba hAw8
        have hAja := row_below hba hAj8
        have hA2 : RowAt wa a2 (n + m - k) (fun i => J (k + i)) := hs1 _ _ (row_below hba hAi8)
        have hbe := below_grew hbw hba
        clear hd9 hE9 hb9 hAi9 hoa hA18 hAw8 hAj8 hAi8 hE8 hbw HO9 hb8 hba hs1 hs2
        rw [errIf, if_neg (by omega)] at hda
        go_wp2_with fail
        refine (rest9 _ w8.heap.size a2 (n + m - k) (ci - k) _ hda).mono ?_
        rintro e wx ⟨rfl, hwx⟩
        rw [hwx]
        clear hwx wx
        go_wp2_with fail
        refine (err10 _ w8.heap.size _ _ hda).mono ?_
        rintro e wx ⟨rfl, hwx⟩
        rw [hwx]
        clear hwx wx
        clear hda
        go_wp2_with fail
        refine (zzuvarint11v _ aw n cw v k Z hn' hZ hAwa hv).mono ?_
        rintro e wx ⟨rfl, hwx⟩
        rw [hwx]
        clear hwx wx
        go_wp2_with (refine wpList_reslice rfl (.tmp 103) (.tmp 104) rfl aw n cw k rfl rfl hkn hcw ?_)
        intro aw2 H1 H2
        have hAt := H1.out _ _ hAwa
        go_wp2_with fail
        refine (same12 _ a1 aw2 (n - k) (cb - k) (cw - k) _ _ hnk hA1a hAt (fun _ _ => rfl)).mono ?_
        rintro e wx ⟨rfl, q, rfl⟩
        go_wp2_with (refine wpList_reslice rfl (.tmp 110) (.tmp 111) rfl aj (n + m) cj k rfl rfl hkj hcj ?_)
        intro aj2 H3 H4
        have hAt2 := H3.out _ _ (row_drewN hAja q)
        go_wp2_with fail
        refine (same12 _ a2 aj2 (n + m - k) (ci - k) (cj - k) _ _ hnj (row_drewN hA2 q) hAt2 (fun _ _ => rfl)).mono ?_
        rintro e wx ⟨rfl, q', rfl⟩
        go_wp2
        go_ret
        exact ⟨rfl, by simpa using below_drewN (below_drewN hbe q) q'⟩
end Go.Proofs.Qxb6615735aDoor
