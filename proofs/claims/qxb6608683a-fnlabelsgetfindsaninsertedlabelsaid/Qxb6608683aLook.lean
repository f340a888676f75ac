import Derived.Test.Qxb6608683aGet2
namespace Go.Proofs.Qxb6608683a
open Go.RowKit
set_option linter.unusedSimpArgs false
set_option linter.unusedVariables false

/-- The law's answer: true, and nothing that was there is touched. -/
def TruePost (w : World) (e : Ending) (w' : World) : Prop := e = .returned (.bool true) ∧ Below w.heap.size w w'

theorem IsLook.keep {K V : Nat → ByteArray} {k : Nat} {key v : ByteArray} {ok : Bool} (h : IsLook K V k key v ok) (hk : K k ≠ key) : IsLook K V (k + 1) key v ok := by
  rcases h with ⟨rfl, i, hi, e, rfl⟩ | ⟨rfl, rfl, h⟩
  · exact .inl ⟨rfl, i, by omega, e, rfl⟩
  · refine .inr ⟨rfl, rfl, fun i hi => ?_⟩
    by_cases e : i = k
    · subst e; exact hk
    · exact h i (by omega)

set_option maxRecDepth 100000 in
set_option maxHeartbeats 2000000 in
theorem law3 (w : World) (a : Option Addr) (n c : Nat) (key : ByteArray) (K V : Nat → ByteArray) (hn : n ≤ maxLen) (hk : key.size ≤ maxLen) (hK : ∀ i, (K i).size ≤ maxLen) (hV : ∀ i, (V i).size ≤ maxLen) (hA : LabAt w a n K V) :
    Calls Try.prog 3 #[.slice a n c, .string key] w fun e w' => TruePost w e w' := by
  have hks : key.size ≤ 9223372036854775807 := by unfold maxLen at hk; omega
  go_enter Try.func3, Try.ntmps3
  go_wp2_with fail
  refine (bytes5 w a n c key K V hn hk hK hV hA).mono ?_
  rintro e wx ⟨⟨r, rfl, hr⟩, hwx⟩
  rw [hwx]
  clear hwx wx
  cases r
  · go_wp2
    go_ret
    exact ⟨rfl, Below.refl _ _⟩
  have hn1 := hr rfl
  clear hr hn
  go_wp2_with fail
  refine (add7 _ 0 key.size (by omega) (by omega) (by omega) (by omega)).mono ?_
  rintro e wx ⟨⟨r1, rfl, r10, r11⟩, hwx⟩
  rw [hwx]
  clear hwx wx
  go_wp2_with fail
  refine (labels6 _ r1 a n c K V r10 r11 hn1 hK hV hA).mono ?_
  rintro e wx ⟨⟨r2, rfl, r20, r21⟩, hwx⟩
  rw [hwx]
  clear hwx wx
  go_wp2_with fail
  · go_ret
    exact ⟨rfl, Below.refl _ _⟩
  refine (keys8 _ a n c K V hn1 hA).mono ?_
  rintro e w2 ⟨⟨r, rfl, hr⟩, q, rfl⟩
  have hB := below_drewN (Below.refl w.heap.size w) q
  cases r
  · go_wp2
    go_ret
    exact ⟨rfl, hB⟩
  have hs := hr rfl
  clear hr
  go_wp2_with fail
  refine (to9 _ a n c K V hn1 (lab_drewN hA q)).mono ?_
  rintro e w3 ⟨a', c', rfl, hA', hB3⟩
  have hB4 : Below w.heap.size w w3 := hB.trans hB3
  clear hB hB3
  go_wp2_with fail
  go_loop [6, 7, 28] (fun v o i => ∃ (k : Nat) (x : ByteArray) (ok : Bool), k ≤ n ∧ i = .int .i64 k ∧ v = .string x ∧ o = .bool ok ∧ IsLook K V k key x ok) (fun _ _ i => n - (intOf i).toNat)
  case atStart => exact ⟨0, ByteArray.empty, false, by omega, rfl, rfl, rfl, .inr ⟨rfl, rfl, fun i hi => by omega⟩⟩
  case round =>
    obtain ⟨k, x, ok, hkn, rfl, rfl, rfl, hl⟩ := hrel
    have HL : Hid (IsLook K V k key x ok) := hl
    clear hl
    by_cases hlt : k < n
    · obtain ⟨b, off, rfl, hc⟩ := lab_below hB4 hA (by omega)
      obtain ⟨c1, c2⟩ := hc k hlt
      clear hc
      cases hbe : ((K k).toList == key.toList)
      · go_wp2
        go_round
        case rel =>
          refine ⟨k + 1, x, ok, by omega, by go_num, rfl, rfl, HL.out.keep ?_⟩
          intro e
          rw [e] at hbe
          simp at hbe
        case measure => simp [intOf]; omega
      · have hke : K k = key := bytes_ext (by simpa using hbe)
        go_wp2
        go_round
        case rel => exact ⟨k + 1, V k, true, by omega, by go_num, rfl, rfl, .inl ⟨rfl, k, by omega, hke, rfl⟩⟩
        case measure => simp [intOf]; omega
    · obtain rfl : k = n := by omega
      go_wp2_with fail
      refine (get10 w3 a' k c' key K V (by omega) hs hA').mono ?_
      rintro e w4 ⟨v, ok', rfl, hv, hB5⟩
      obtain ⟨rfl, rfl⟩ := hv.unique hs HL.out
      have hB6 := hB4.trans (hB5.mono hB4.size)
      have e1 : (v.toList == v.toList) = true := by simp
      have e2 : (ok' == ok') = true := by simp
      go_wp2
      go_ret
      exact ⟨rfl, hB6⟩
end Go.Proofs.Qxb6608683a
