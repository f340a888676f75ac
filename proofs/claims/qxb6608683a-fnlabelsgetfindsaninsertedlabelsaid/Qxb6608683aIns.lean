import Derived.Test.Qxb6608683aOwn
import Derived.Test.Qxb6608683aLook
import Derived.Test.Qxb6608683aRuns
namespace Go.Proofs.Qxb6608683a
open Go.RowKit
set_option linter.unusedSimpArgs false
set_option linter.unusedVariables false

theorem make_row (w : World) (n : Nat) (hn : n ≤ 1048576) : ∃ w', (Instr.makeSlice 28 (.int .i64 0) (.int .i64 ((n : Int) + 1))).run Try.prog w = .ok (.slice (some ⟨w.heap.size, 0, none⟩) 0 (n + 1)) w' ∧
    w'.ownsRow w.heap.size 35 2 (.slice (some ⟨w.heap.size, 0, none⟩) 0 (n + 1)) 0 [] ∧ w.grownBy w' none := by
  obtain ⟨i, hi, hz0, hz1, hz2⟩ := info_parts info35
  exact run_make_own w w.heap.size 28 35 i _ 2 Try.underlying28 hi hz0 hz1 .i64 .i64 (n + 1) (by rw [hz2]; omega) (by unfold maxLen; omega) (Nat.le_refl _)

set_option maxRecDepth 100000 in
set_option maxHeartbeats 4000000 in
theorem law4 (w : World) (a : Option Addr) (n c : Nat) (key val probe : ByteArray) (K V : Nat → ByteArray) (hn : n ≤ maxLen) (hk : key.size ≤ maxLen) (hv : val.size ≤ maxLen) (hp : probe.size ≤ maxLen) (hK : ∀ i, (K i).size ≤ maxLen) (hV : ∀ i, (V i).size ≤ maxLen) (hA : LabAt w a n K V) :
    Calls Try.prog 4 #[.slice a n c, .string key, .string val, .string probe] w fun e w' => TruePost w e w' := by
  have hks : key.size ≤ 9223372036854775807 := by unfold maxLen at hk; omega
  have hvs : val.size ≤ 9223372036854775807 := by unfold maxLen at hv; omega
  have hps : probe.size ≤ 9223372036854775807 := by unfold maxLen at hp; omega
  obtain ⟨i35, hi35, hz35, hs35, hb35⟩ := info_parts info35
  go_enter Try.func4, Try.ntmps4
  go_wp2_with fail
  refine (bytes11 w a n c key val probe K V hn hk hv hp hK hV hA).mono ?_
  rintro e wx ⟨⟨r, rfl, hr⟩, hwx⟩
  rw [hwx]
  clear hwx wx
  cases r
  · go_wp2
    go_ret
    exact ⟨rfl, Below.refl _ _⟩
  have hn1 := hr rfl
  clear hr hn
  go_wp2_with fail
  refine (add7 _ 0 key.size (by omega) (by omega) (by omega) (by omega)).mono ?_
  rintro e wx ⟨⟨r1, rfl, r10, r11⟩, hwx⟩
  rw [hwx]
  clear hwx wx
  go_wp2_with fail
  refine (add7 _ r1 val.size r10 r11 (by omega) (by omega)).mono ?_
  rintro e wx ⟨⟨r2, rfl, r20, r21⟩, hwx⟩
  rw [hwx]
  clear hwx wx
  go_wp2_with fail
  refine (add7 _ r2 probe.size r20 r21 (by omega) (by omega)).mono ?_
  rintro e wx ⟨⟨r3, rfl, r30, r31⟩, hwx⟩
  rw [hwx]
  clear hwx wx
  go_wp2_with fail
  refine (labels6 _ r3 a n c K V r30 r31 hn1 hK hV hA).mono ?_
  rintro e wx ⟨⟨r4, rfl, r40, r41⟩, hwx⟩
  rw [hwx]
  clear hwx wx hks hvs hps hk hv hp hK hV
  go_wp2_with fail
  · go_ret
    exact ⟨rfl, Below.refl _ _⟩
  refine (keys8 _ a n c K V hn1 hA).mono ?_
  rintro e w2 ⟨⟨r, rfl, hr⟩, q, rfl⟩
  have hB := below_drewN (Below.refl w.heap.size w) q
  cases r
  · go_wp2
    go_ret
    exact ⟨rfl, hB⟩
  have hs := hr rfl
  clear hr
  go_wp2_with fail
  refine (has12 _ a n c key K V hn1 (lab_drewN hA q)).mono ?_
  rintro e wx ⟨⟨r, rfl, hr⟩, hwx⟩
  rw [hwx]
  clear hwx wx
  cases r
  rotate_left
  · go_wp2
    go_ret
    exact ⟨rfl, hB⟩
  have hnew := hr rfl
  have HN : Hid (∀ i, i < n → K i ≠ key) := hnew
  clear hr hnew
  go_wp2_with fail
  refine (to9 _ a n c K V hn1 (lab_drewN hA q)).mono ?_
  rintro e w3 ⟨a', c', rfl, hA', hB3⟩
  have hB4 : Below w.heap.size w w3 := hB.trans hB3
  clear hB hB3
  obtain ⟨w4, hmk, how, hgr⟩ := make_row w3 n (by omega)
  have hB5 : Below w3.heap.size w3 w4 := ⟨hgr.os, hgr.tape, hgr.output, hgr.size, fun k hk => hgr.block k hk (fun h => by cases h)⟩
  clear hgr
  have HO : Hid (w4.ownsRow w3.heap.size 35 2 (.slice (some ⟨w3.heap.size, 0, none⟩) 0 (n + 1)) 0 [] ∧ Below w3.heap.size w3 w4) := ⟨how, hB5⟩
  clear how hB5
  go_wp2_with fail
  go_loop [11] (fun i => ∃ k : Nat, k ≤ n ∧ i = .int .i64 k ∧ ∀ j, j < k → Op.bytesLess (K j).toList key.toList = true) (fun i => n - (intOf i).toNat)
  case atStart => exact ⟨0, by omega, rfl, fun j hj => by omega⟩
  case round =>
    obtain ⟨p, hpn, rfl, hlo⟩ := hrel
    have HL : Hid (∀ j, j < p → Op.bytesLess (K j).toList key.toList = true) := hlo
    clear hlo
    have HT : Hid (p < n → Op.bytesLess (K p).toList key.toList = true) ∨ Hid (p < n → Op.bytesLess (K p).toList key.toList = false) := by
      cases hbe : Op.bytesLess (K p).toList key.toList
      · exact .inr (fun _ => rfl)
      · exact .inl (fun _ => rfl)
    by_cases hgo : p < n ∧ Op.bytesLess (K p).toList key.toList = true
    · obtain ⟨hlt, hbe⟩ := hgo
      obtain ⟨b, off, hab, hc⟩ := lab_below hB4 hA (by omega)
      subst hab
      obtain ⟨c1, c2⟩ := hc p hlt
      clear hc
      go_wp2
      go_round
      case rel =>
        refine ⟨p + 1, by omega, by go_num, fun j hj => ?_⟩
        by_cases e : j = p
        · subst e; exact hbe
        · exact HL.out j (by omega)
      case measure => simp [intOf]; omega
    have HI : Hid (p < n → Op.bytesLess (K p).toList key.toList = false) := fun h => by
      cases e : Op.bytesLess (K p).toList key.toList
      · rfl
      · exact absurd ⟨h, e⟩ hgo
    clear hgo HT
    by_cases hlt : p < n
    case' pos =>
      obtain ⟨b, off, hab, hc⟩ := lab_below hB4 hA (by omega)
      subst hab
      obtain ⟨c1, c2⟩ := hc p hlt
      have hbe := HI.out hlt
      clear hc
      go_wp2_with fail
      clear c1 c2 hbe hlt
      generalize (some (⟨b, off, none⟩ : Addr)) = a at hA ⊢
    case' neg =>
      have hd : decide ((p : Int) < (n : Int)) = false := by simp; omega
      go_wp2_with fail
      clear hd hlt
    all_goals
      go_loopw [12, 13] (fun s i wr => ∃ k : Nat, k ≤ p ∧ i = .int .i64 k ∧ wr.ownsRow w3.heap.size 35 2 s k (flat (ins K p key) (ins V p val) k) ∧ Below w3.heap.size w3 wr) (fun _ i _ => p - (intOf i).toNat)
      case atStart => exact ⟨0, by omega, rfl, HO.out.1, HO.out.2⟩
      case round =>
        obtain ⟨k, hkp, rfl, how, hBr⟩ := hrel
        have hBw : Below w.heap.size w wr := hB4.trans (hBr.mono hB4.size)
        by_cases hlt : k < p
        · obtain ⟨b, off, hab, hc⟩ := lab_below hBw hA (by omega)
          subst hab
          obtain ⟨c1, c2⟩ := hc k (by omega)
          clear hc
          go_wp2_with fail
          have hbl : b < wr.heap.size := World.block_lt_of_cell? wr _ c1
          refine wp_region_noPanic (wp_region_held_tail 12 (fun x => x.cell? ⟨b, off + k * 2, none⟩ = some (.string (K k)) ∧ x.cell? ⟨b, off + k * 2 + 1, none⟩ = some (.string (V k))) (by kernel_rfl) (by kernel_rfl) ⟨by simpa using c1, by simpa using c2⟩ (fun _ _ _ _ _ h => h) ?_)
          simp only [List.take_succ_cons, List.take_zero, List.drop_succ_cons, List.drop_zero]
          refine wpQuiet_mov rfl u12 rfl ?_
          simp only [Act.put, List.setIfInBounds_toArray, List.set_cons_succ, List.set_cons_zero]
          refine wpQuiet_mov rfl (.slice (some ⟨b, off, none⟩) n c) rfl ?_
          simp only [Act.put, List.setIfInBounds_toArray, List.set_cons_succ, List.set_cons_zero]
          refine wpQuiet_mov rfl (.int .i64 k) rfl ?_
          simp only [Act.put, List.setIfInBounds_toArray, List.set_cons_succ, List.set_cons_zero]
          refine wpQuiet_val rfl (Instr.indexAt 22 (.slice (some ⟨b, off, none⟩) n c) (.int .i64 k)) rfl _ (fun x _ => idx22 x b off n c k (by omega) hn1) ?_
          simp only [Act.put, List.setIfInBounds_toArray, List.set_cons_succ, List.set_cons_zero]
          refine wpQuiet_val rfl (Instr.fieldAt 31 (.pointer (some ⟨b, off + k * 2, none⟩)) 0) rfl _ (fun x _ => fld0 x b _) ?_
          simp only [Act.put, List.setIfInBounds_toArray, List.set_cons_succ, List.set_cons_zero]
          refine wpQuiet_val rfl (Instr.loadAt 9 (.pointer (some ⟨b, off + k * 2, none⟩))) rfl _ (fun x hx => load9 x b _ _ hx.1) ?_
          simp only [Act.put, List.setIfInBounds_toArray, List.set_cons_succ, List.set_cons_zero]
          refine wpQuiet_mov rfl (.slice (some ⟨b, off, none⟩) n c) rfl ?_
          simp only [Act.put, List.setIfInBounds_toArray, List.set_cons_succ, List.set_cons_zero]
          refine wpQuiet_mov rfl (.int .i64 k) rfl ?_
          simp only [Act.put, List.setIfInBounds_toArray, List.set_cons_succ, List.set_cons_zero]
          refine wpQuiet_val rfl (Instr.indexAt 22 (.slice (some ⟨b, off, none⟩) n c) (.int .i64 k)) rfl _ (fun x _ => idx22 x b off n c k (by omega) hn1) ?_
          simp only [Act.put, List.setIfInBounds_toArray, List.set_cons_succ, List.set_cons_zero]
          refine wpQuiet_val rfl (Instr.fieldAt 31 (.pointer (some ⟨b, off + k * 2, none⟩)) 1) rfl _ (fun x _ => fld1 x b _) ?_
          simp only [Act.put, List.setIfInBounds_toArray, List.set_cons_succ, List.set_cons_zero]
          refine wpQuiet_val rfl (Instr.loadAt 9 (.pointer (some ⟨b, off + k * 2 + 1, none⟩))) rfl _ (fun x hx => load9 x b _ _ hx.2) ?_
          simp only [Act.put, List.setIfInBounds_toArray, List.set_cons_succ, List.set_cons_zero]
          refine wpQuiet_build rfl 35 [(0, .tmp 79), (1, .tmp 84)] rfl _ [(0, .string (K k)), (1, .string (V k))] rfl (fun x _ => build35 x _ _) ?_
          simp only [Act.put, List.setIfInBounds_toArray, List.set_cons_succ, List.set_cons_zero]
          refine wpQuiet_nil ?_
          have hS1 : ∀ W : World, Below w.heap.size w W → W.cell? ⟨b, off + k * 2, none⟩ = some (.string (K k)) ∧ W.cell? ⟨b, off + k * 2 + 1, none⟩ = some (.string (V k)) := fun W hW => by
            obtain ⟨b', off', e, hc⟩ := lab_below hW hA (by omega)
            simp only [Option.some.injEq, Addr.mk.injEq, and_true] at e
            obtain ⟨rfl, rfl⟩ := e
            exact hc k (by omega)
          have hszw : w.heap.size ≤ wr.heap.size := hBw.size
          have hsz3 : w3.heap.size ≤ wr.heap.size := hBr.size
          refine wpListS_buildSlice rfl 28 1 [(0, .tmp 85)] rfl _ [(0, .agg #[.string (K k), .string (V k)])] rfl (slice_lab _ _ _) (hS1 _ (hBw.drew.alloc hszw _)) ?_
          simp only [Act.put, List.setIfInBounds_toArray, List.set_cons_succ, List.set_cons_zero]
          have hcells : labCells (ins K p key) (ins V p val) k = [.string (K k), .string (V k)] := by simp only [labCells, ins, if_pos hlt]
          have how2 := (own_drew how).alloc (.cells #[.string (K k), .string (V k)] 35)
          refine ⟨rfl, wp_append_own _ (.tmp 74) (.tmp 86) 28 rfl w3.heap.size 35 i35 _ 2 32 Try.underlying28 hi35 hz35 hs35 hb35 rfl (by decide) u12 k _ rfl how2 _ 1 1 (labCells (ins K p key) (ins V p val) k) rfl rfl ?c1 ?c2 ?c3 ?c4 ?c5 ?_⟩
          case c1 =>
            rw [hcells]
            intro j u hj
            rw [Addr.add_mid]
            exact range_new _ [.string (K k), .string (V k)] 35 j u hj
          case c2 => rw [hcells]; intro u hu; simp only [List.mem_cons, List.not_mem_nil, or_false] at hu; rcases hu with rfl | rfl <;> rfl
          case c3 => unfold maxLen; omega
          case c4 => omega
          case c5 => simp; omega
          intro v1 w5 how1 hgr1 _
          rw [← flat_succ] at how1
          have hB1 : Below w3.heap.size w3 w5 := (hBr.drew.alloc hsz3 _).trans (below_grown how2 hgr1 (by simp; omega))
          refine ⟨hS1 _ (hB4.trans (hB1.mono hB4.size)), ?_⟩
          clear how hgr1 c1 c2 hBr hBw hcells how2
          simp only [Act.put, List.setIfInBounds_toArray, List.set_cons_succ, List.set_cons_zero]
          refine wpListS_run rfl v1 rfl (hS1 _ (hB4.trans (hB1.mono hB4.size))) ?_
          simp only [Act.put, List.setIfInBounds_toArray, List.set_cons_succ, List.set_cons_zero]
          show NoPanic _ _ _ _
          simp only [NoPanic]
          go_wp2
          go_roundw
          case rel => exact ⟨k + 1, by omega, by go_num, how1, hB1⟩
          case measure => simp [intOf]; omega
        · obtain rfl : p = k := by omega
          have hsz3 : w3.heap.size ≤ wr.heap.size := hBr.size
          have hcells : Hid (labCells (ins K p key) (ins V p val) p = [.string key, .string val]) := show _ = _ from by simp only [labCells, ins, if_neg (Nat.lt_irrefl p), if_true]
          have how2 := how.alloc (.cells #[.string key, .string val] 35)
          clear hlt
          go_wp2_with (at_builtin; go_must (refine wpList_append_own _ rfl (.tmp 88) (.tmp 92) 28 rfl w3.heap.size 35 i35 _ 2 32 Try.underlying28 hi35 hz35 hs35 hb35 rfl (by decide) u12 p _ rfl how2 _ 1 1 (labCells (ins K p key) (ins V p val) p) rfl rfl ?c1 ?c2 ?c3 ?c4 ?c5 ?_))
          case c1 =>
            rw [hcells.out]
            intro j u hj
            rw [Addr.add_mid]
            exact range_new _ [.string key, .string val] 35 j u hj
          case c2 => rw [hcells.out]; intro u hu; simp only [List.mem_cons, List.not_mem_nil, or_false] at hu; rcases hu with rfl | rfl <;> rfl
          case c3 => unfold maxLen; omega
          case c4 => omega
          case c5 => simp; omega
          intro v1 w5 how1 hgr1 _
          rw [← flat_succ] at how1
          have hB1 : Below w3.heap.size w3 w5 := (hBr.alloc hsz3 _).trans (below_grown how2 hgr1 (by simp; omega))
          have HR : Hid (w5.ownsRow w3.heap.size 35 2 v1 (p + 1) (flat (ins K p key) (ins V p val) (p + 1)) ∧ Below w3.heap.size w3 w5) := ⟨how1, hB1⟩
          clear how hgr1 hBr hBw hcells how2 how1 hB1 hsz3
          go_wp2_with fail
          go_loopw [12, 14] (fun s i wr => ∃ k : Nat, p ≤ k ∧ k ≤ n ∧ i = .int .i64 k ∧ wr.ownsRow w3.heap.size 35 2 s (k + 1) (flat (ins K p key) (ins V p val) (k + 1)) ∧ Below w3.heap.size w3 wr) (fun _ i _ => n - (intOf i).toNat)
          case atStart => exact ⟨p, by omega, by omega, rfl, HR.out.1, HR.out.2⟩
          case round =>
            clear HR
            obtain ⟨k, hpk, hkn, rfl, how, hBr⟩ := hrel
            have hBw : Below w.heap.size w wr := hB4.trans (hBr.mono hB4.size)
            by_cases hlt : k < n
            · obtain ⟨b, off, hab, hc⟩ := lab_below hBw hA (by omega)
              subst hab
              obtain ⟨c1, c2⟩ := hc k (by omega)
              clear hc
              go_wp2_with fail
              have hbl : b < wr.heap.size := World.block_lt_of_cell? wr _ c1
              refine wp_region_noPanic (wp_region_held_tail 12 (fun x => x.cell? ⟨b, off + k * 2, none⟩ = some (.string (K k)) ∧ x.cell? ⟨b, off + k * 2 + 1, none⟩ = some (.string (V k))) (by kernel_rfl) (by kernel_rfl) ⟨by simpa using c1, by simpa using c2⟩ (fun _ _ _ _ _ h => h) ?_)
              simp only [List.take_succ_cons, List.take_zero, List.drop_succ_cons, List.drop_zero]
              refine wpQuiet_mov rfl u12 rfl ?_
              simp only [Act.put, List.setIfInBounds_toArray, List.set_cons_succ, List.set_cons_zero]
              refine wpQuiet_mov rfl (.slice (some ⟨b, off, none⟩) n c) rfl ?_
              simp only [Act.put, List.setIfInBounds_toArray, List.set_cons_succ, List.set_cons_zero]
              refine wpQuiet_mov rfl (.int .i64 k) rfl ?_
              simp only [Act.put, List.setIfInBounds_toArray, List.set_cons_succ, List.set_cons_zero]
              refine wpQuiet_val rfl (Instr.indexAt 22 (.slice (some ⟨b, off, none⟩) n c) (.int .i64 k)) rfl _ (fun x _ => idx22 x b off n c k (by omega) hn1) ?_
              simp only [Act.put, List.setIfInBounds_toArray, List.set_cons_succ, List.set_cons_zero]
              refine wpQuiet_val rfl (Instr.fieldAt 31 (.pointer (some ⟨b, off + k * 2, none⟩)) 0) rfl _ (fun x _ => fld0 x b _) ?_
              simp only [Act.put, List.setIfInBounds_toArray, List.set_cons_succ, List.set_cons_zero]
              refine wpQuiet_val rfl (Instr.loadAt 9 (.pointer (some ⟨b, off + k * 2, none⟩))) rfl _ (fun x hx => load9 x b _ _ hx.1) ?_
              simp only [Act.put, List.setIfInBounds_toArray, List.set_cons_succ, List.set_cons_zero]
              refine wpQuiet_mov rfl (.slice (some ⟨b, off, none⟩) n c) rfl ?_
              simp only [Act.put, List.setIfInBounds_toArray, List.set_cons_succ, List.set_cons_zero]
              refine wpQuiet_mov rfl (.int .i64 k) rfl ?_
              simp only [Act.put, List.setIfInBounds_toArray, List.set_cons_succ, List.set_cons_zero]
              refine wpQuiet_val rfl (Instr.indexAt 22 (.slice (some ⟨b, off, none⟩) n c) (.int .i64 k)) rfl _ (fun x _ => idx22 x b off n c k (by omega) hn1) ?_
              simp only [Act.put, List.setIfInBounds_toArray, List.set_cons_succ, List.set_cons_zero]
              refine wpQuiet_val rfl (Instr.fieldAt 31 (.pointer (some ⟨b, off + k * 2, none⟩)) 1) rfl _ (fun x _ => fld1 x b _) ?_
              simp only [Act.put, List.setIfInBounds_toArray, List.set_cons_succ, List.set_cons_zero]
              refine wpQuiet_val rfl (Instr.loadAt 9 (.pointer (some ⟨b, off + k * 2 + 1, none⟩))) rfl _ (fun x hx => load9 x b _ _ hx.2) ?_
              simp only [Act.put, List.setIfInBounds_toArray, List.set_cons_succ, List.set_cons_zero]
              refine wpQuiet_build rfl 35 [(0, .tmp 106), (1, .tmp 111)] rfl _ [(0, .string (K k)), (1, .string (V k))] rfl (fun x _ => build35 x _ _) ?_
              simp only [Act.put, List.setIfInBounds_toArray, List.set_cons_succ, List.set_cons_zero]
              refine wpQuiet_nil ?_
              have hS1 : ∀ W : World, Below w.heap.size w W → W.cell? ⟨b, off + k * 2, none⟩ = some (.string (K k)) ∧ W.cell? ⟨b, off + k * 2 + 1, none⟩ = some (.string (V k)) := fun W hW => by
                obtain ⟨b', off', e, hc⟩ := lab_below hW hA (by omega)
                simp only [Option.some.injEq, Addr.mk.injEq, and_true] at e
                obtain ⟨rfl, rfl⟩ := e
                exact hc k (by omega)
              have hszw : w.heap.size ≤ wr.heap.size := hBw.size
              have hsz3 : w3.heap.size ≤ wr.heap.size := hBr.size
              refine wpListS_buildSlice rfl 28 1 [(0, .tmp 112)] rfl _ [(0, .agg #[.string (K k), .string (V k)])] rfl (slice_lab _ _ _) (hS1 _ (hBw.drew.alloc hszw _)) ?_
              simp only [Act.put, List.setIfInBounds_toArray, List.set_cons_succ, List.set_cons_zero]
              have hcells : labCells (ins K p key) (ins V p val) (k + 1) = [.string (K k), .string (V k)] := by simp only [labCells, ins, if_neg (show ¬ k + 1 < p by omega), if_neg (show ¬ k + 1 = p by omega), Nat.add_sub_cancel]
              have how2 := (own_drew how).alloc (.cells #[.string (K k), .string (V k)] 35)
              refine ⟨rfl, wp_append_own _ (.tmp 101) (.tmp 113) 28 rfl w3.heap.size 35 i35 _ 2 32 Try.underlying28 hi35 hz35 hs35 hb35 rfl (by decide) u12 (k + 1) _ rfl how2 _ 1 1 (labCells (ins K p key) (ins V p val) (k + 1)) rfl rfl ?c1 ?c2 ?c3 ?c4 ?c5 ?_⟩
              case c1 =>
                rw [hcells]
                intro j u hj
                rw [Addr.add_mid]
                exact range_new _ [.string (K k), .string (V k)] 35 j u hj
              case c2 => rw [hcells]; intro u hu; simp only [List.mem_cons, List.not_mem_nil, or_false] at hu; rcases hu with rfl | rfl <;> rfl
              case c3 => unfold maxLen; omega
              case c4 => omega
              case c5 => simp; omega
              intro v1 w5 how1 hgr1 _
              rw [← flat_succ] at how1
              have hB1 : Below w3.heap.size w3 w5 := (hBr.drew.alloc hsz3 _).trans (below_grown how2 hgr1 (by simp; omega))
              refine ⟨hS1 _ (hB4.trans (hB1.mono hB4.size)), ?_⟩
              clear how hgr1 c1 c2 hBr hBw hcells how2
              simp only [Act.put, List.setIfInBounds_toArray, List.set_cons_succ, List.set_cons_zero]
              refine wpListS_run rfl v1 rfl (hS1 _ (hB4.trans (hB1.mono hB4.size))) ?_
              simp only [Act.put, List.setIfInBounds_toArray, List.set_cons_succ, List.set_cons_zero]
              show NoPanic _ _ _ _
              simp only [NoPanic]
              go_wp2
              go_roundw
              case rel => exact ⟨k + 1, by omega, by omega, by go_num, how1, hB1⟩
              case measure => simp [intOf]; omega
            · obtain rfl : k = n := by omega
              obtain ⟨a2, c2, rfl, hA2⟩ := lab_of_own how
              have hs2 := ins_sorted hs hpn HL.out HI.out HN.out
              have hA3 := lab_below hBr hA'
              clear how hlt
              go_wp2_with fail
              refine (get10 wr a2 (k + 1) c2 key _ _ (by omega) hs2 hA2).mono ?_
              rintro e w6 ⟨v, ok, rfl, hv, hB6⟩
              obtain ⟨rfl, rfl⟩ := ins_found hs2 hpn hv
              clear hv
              have hne : (v.toList != v.toList) = false := by simp
              have hBw6 := hBw.trans (hB6.mono hBw.size)
              cases hpe : (probe.toList == key.toList)
              · have hpk : probe ≠ key := fun e => by rw [e] at hpe; simp at hpe
                go_wp2_with fail
                refine (get10 w6 a2 (k + 1) c2 probe _ _ (by omega) hs2 (lab_below hB6 hA2)).mono ?_
                rintro e w7 ⟨v', ok', rfl, hv', hB7⟩
                go_wp2_with fail
                refine (get10 w7 a' k c' probe _ _ (by omega) hs (lab_below hB7 (lab_below hB6 hA3))).mono ?_
                rintro e w8 ⟨v'', ok'', rfl, hv'', hB8⟩
                obtain ⟨rfl, rfl⟩ := ins_other hs hpn hpk hv' hv''
                clear hv' hv''
                have e1 : (v'.toList == v'.toList) = true := by simp
                have e2 : (ok' == ok') = true := by simp
                have hBw7 := hBw6.trans (hB7.mono hBw6.size)
                have hBw8 := hBw7.trans (hB8.mono hBw7.size)
                go_wp2
                go_ret
                exact ⟨rfl, hBw8⟩
              · go_wp2
                go_ret
                exact ⟨rfl, hBw6⟩
end Go.Proofs.Qxb6608683a
