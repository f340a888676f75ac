import Derived.Test.Qxb6608683aGet
namespace Go.Proofs.Qxb6608683a
open Go.RowKit
set_option linter.unusedSimpArgs false
set_option linter.unusedVariables false

/-- A look-up's answer. -/
def GetPost (K V : Nat → ByteArray) (n : Nat) (key : ByteArray) (w : World) (e : Ending) (w' : World) : Prop :=
  ∃ v ok, e = .returned (.tuple #[.string v, .bool ok]) ∧ IsLook K V n key v ok ∧ Below w.heap.size w w'

set_option maxHeartbeats 1000000 in
theorem search13 (w : World) (a : Option Addr) (n c : Nat) (key : ByteArray) (K V : Nat → ByteArray) (hn : n ≤ 4194304) (hs : Sorted K n) (hA : LabAt w a n K V) :
    Calls Try.prog 13 #[.slice a n c, .string key] w fun e w' => GetPost K V n key w e w' := by
  have hmf : ∀ fn first cap w, (Instr.makeFunc fn first cap).run Try.prog w = .ok (.func fn first cap) w := fun _ _ _ _ => rfl
  go_enter Try.func13, Try.ntmps13
  go_wp2_with fail
  have HW : ∃ W, W = (w.alloc (Obj.cells #[Value.slice a n c] 28)).alloc (Obj.cells #[Value.string key] 9) := ⟨_, rfl⟩
  obtain ⟨W, HW⟩ := HW
  rw [← HW]
  have hB : Below w.heap.size w W := by rw [HW]; exact ((Below.refl _ _).alloc (Nat.le_refl _) _).alloc (by simp) _
  have h0 : W.cell? ⟨w.heap.size, 0, none⟩ = some (.slice a n c) := by rw [HW]; simp [World.cell?_alloc_past]
  have h1 : W.cell? ⟨w.heap.size + 1, 0, none⟩ = some (.string key) := by rw [HW]; simp [World.cell?_alloc_past]
  have hA' := lab_below hB hA
  clear HW hA
  refine (search14 W w.heap.size (w.heap.size + 1) a n c key K V hn hs hA' h0 h1).mono ?_
  rintro e w1 ⟨⟨i, rfl, hin, hlo, hhi⟩, q, rfl⟩
  have HL : Hid (_ ∧ _) := ⟨(look_search (V := V) hs hlo hhi).1, (look_search (V := V) hs hlo hhi).2⟩
  clear hlo hhi
  have hB' : Below w.heap.size w (W.drewN q) := below_drewN hB q
  by_cases hlt : i < n
  · obtain ⟨b, off, rfl, hc⟩ := hA' (by omega)
    obtain ⟨c1, c2⟩ := hc i hlt
    clear hc
    cases hb : ((K i).toList == key.toList)
    · go_wp2
      go_quiet (fail)
      go_wp2
      go_ret2
      refine ⟨ByteArray.empty, false, rfl, HL.out.2 (.inr ?_), below_drewN hB' nq⟩
      intro e
      rw [e] at hb
      simp at hb
    · go_wp2
      go_quiet (fail)
      go_wp2
      go_ret2
      have hk : K i = key := bytes_ext (by simpa using hb)
      exact ⟨V i, true, rfl, HL.out.1 hlt hk, by simpa using below_drewN hB' nq⟩
  · obtain rfl : i = n := by omega
    have hd : decide ((i : Int) < (i : Int)) = false := by simp
    go_wp2
    go_quiet (fail)
    go_wp2
    go_ret2
    exact ⟨ByteArray.empty, false, rfl, HL.out.2 (.inl (Nat.le_refl _)), below_drewN hB' nq⟩

set_option maxHeartbeats 1000000 in
theorem get10 (w : World) (a : Option Addr) (n c : Nat) (key : ByteArray) (K V : Nat → ByteArray) (hn : n ≤ 4194304) (hs : Sorted K n) (hA : LabAt w a n K V) :
    Calls Try.prog 10 #[.slice a n c, .string key] w fun e w' => GetPost K V n key w e w' := by
  go_enter Try.func10, Try.ntmps10
  by_cases h8 : 8 < n
  · go_wp2_with fail
    refine (search13 w a n c key K V hn hs hA).mono ?_
    rintro e w1 ⟨v, ok, rfl, hv⟩
    go_wp2
    go_ret2
    exact ⟨v, ok, rfl, hv⟩
  · go_wp2_with fail
    go_loopw [18] (fun i wr => ∃ k : Nat, k ≤ n ∧ i = .int .i64 k ∧ (∀ j, j < k → K j ≠ key) ∧ Below w.heap.size w wr) (fun i _ => n - (intOf i).toNat)
    case atStart => exact ⟨0, by omega, rfl, fun j hj => by omega, Below.refl _ _⟩
    case round =>
      obtain ⟨k, hk, rfl, hall, hb⟩ := hrel
      have HA : Hid (∀ j, j < k → K j ≠ key) := hall
      clear hall
      by_cases hlt : k < n
      · obtain ⟨b, off, rfl, hc⟩ := lab_below hb hA (by omega)
        obtain ⟨c1, c2⟩ := hc k hlt
        clear hc
        have hk2 : w.heap.size ≤ wr.heap.size := hb.size
        cases hbe : ((K k).toList == key.toList)
        · go_wp2
          go_roundw
          case rel =>
            refine ⟨k + 1, by omega, by go_num, fun j hj => ?_, hb.alloc hk2 _⟩
            by_cases e : j = k
            · subst e
              intro e
              rw [e] at hbe
              simp at hbe
            · exact HA.out j (by omega)
          case measure => simp [intOf]; omega
        · have hke : K k = key := bytes_ext (by simpa using hbe)
          go_wp2
          go_ret2
          exact ⟨V k, true, rfl, .inl ⟨rfl, k, hlt, hke, rfl⟩, hb.alloc hk2 _⟩
      · obtain rfl : k = n := by omega
        go_wp2
        go_ret2
        exact ⟨ByteArray.empty, false, rfl, .inr ⟨rfl, rfl, HA.out⟩, hb⟩
end Go.Proofs.Qxb6608683a
