import Derived.Test.Qxb6613758aSmall
import Derived.ProofKit
import Derived.OpenShut
import Derived.ShutString
import Derived.ChangeOld
import Derived.Below
import Derived.Deep.SlicePairs
import Derived.Deep.MidRow
namespace Go.Proofs.Qxb6613758a
open Go.ChangeShapes Go.WideShapes Go.ChangeAt Go.RowKit
set_option linter.unusedVariables false

theorem cellsOf31 : Try.prog.cellsOf 31 = 2 := by kernel_rfl
theorem cellsOf3 : Try.prog.cellsOf 3 = 1 := by kernel_rfl
theorem cellsOf21 : Try.prog.cellsOf 21 = 1 := by kernel_rfl

/-- What is told of a slice of tiers that came in. -/
theorem open_tiers {H : Type} {enc : TypeId × Value → H} {w : World} {a : Option Addr} {len cap : Nat} {d : DataW H} {p : List MemPlace}
    (h : DataW.Trod enc Try.prog w 0 (fun _ => true) true 22 (.slice a len cap) d p) : len ≤ maxLen ∧ len ≤ cap ∧ ∃ D E : Nat → Int, TierAt w a len D E := by
  obtain ⟨fuel, hf⟩ := h
  rcases Deep.open_slice_pairs Try.underlying22 Try.underlying31 cellsOf31 rfl rfl cellsOf3 cellsOf21 hf with ⟨hcs, _⟩ | ⟨x, l, c, m, n, V0, V1, D0, D1, P0, P1, hcs, _, hl, hm, hmm, _, hx⟩
  · simp [Value.cells] at hcs
    obtain ⟨rfl, rfl, rfl⟩ := hcs
    exact ⟨Nat.zero_le _, Nat.le_refl _, fun _ => 0, fun _ => 0, fun h => absurd h (by omega)⟩
  · simp [Value.cells] at hcs
    obtain ⟨rfl, rfl, rfl⟩ := hcs
    simp only [if_true] at hmm
    subst hmm
    refine ⟨by omega, hl, ?_⟩
    have each : ∀ i, ∃ kv : Int × Int, (i < m → V0 i = .int .i64 kv.1 ∧ V1 i = .int .i32 kv.2) := fun i => by
      by_cases hi : i < m
      · obtain ⟨_, _, t0, t1⟩ := hx i hi
        obtain ⟨s0, e0, _⟩ := DataW.trod_int Try.underlying3 t0
        obtain ⟨s1, e1, _⟩ := DataW.trod_int Try.underlying21 t1
        exact ⟨(s0, s1), fun _ => ⟨by simpa using e0, by simpa using e1⟩⟩
      · exact ⟨(0, 0), fun h => absurd h hi⟩
    refine ⟨fun i => (each i).choose.1, fun i => (each i).choose.2, fun hn => ?_⟩
    have h0 := (hx 0 (by omega)).1
    obtain ⟨b, off, rfl⟩ : ∃ b off, x = ⟨b, off, none⟩ := by
      obtain ⟨b, off, spot⟩ := x
      have hspot : spot = none := by simpa [Addr.add] using World.cell?_spot h0
      subst hspot
      exact ⟨b, off, rfl⟩
    refine ⟨b, off, rfl, fun i hi => ?_⟩
    have hi' : i < m := by omega
    obtain ⟨e0, e1⟩ := (each i).choose_spec hi'
    obtain ⟨c0, c1, _, _⟩ := hx i hi'
    rw [e0] at c0
    rw [e1] at c1
    rw [Addr.add_mid] at c0 c1
    exact ⟨c0, c1⟩

/-- What is told of a slice of numbers that came in. -/
theorem open_bounds {H : Type} {enc : TypeId × Value → H} {w : World} {a : Option Addr} {len cap : Nat} {d : DataW H} {p : List MemPlace}
    (h : DataW.Trod enc Try.prog w 0 (fun _ => true) true 32 (.slice a len cap) d p) : len ≤ maxLen ∧ ∃ B : Nat → Int, IntsAt w a len B := by
  obtain ⟨fuel, hf⟩ := h
  rcases open_ints Try.underlying32 Try.underlying3 cellsOf3 hf with ⟨hcs, _⟩ | ⟨x, l, c, zs, hcs, _, hl, hm, hz, _, hcell, hwz⟩
  · simp [Value.cells] at hcs
    obtain ⟨rfl, rfl, rfl⟩ := hcs
    exact ⟨Nat.zero_le _, fun _ => 0, fun h => absurd h (by omega)⟩
  · simp [Value.cells] at hcs
    obtain ⟨rfl, rfl, rfl⟩ := hcs
    simp only [if_true] at hz
    refine ⟨by omega, fun i => zs.getD i 0, fun hn => ?_⟩
    obtain ⟨b, off, rfl, hc⟩ := ints_at hcell (by omega)
    exact ⟨b, off, rfl, fun i hi => hc i (by omega)⟩
end Go.Proofs.Qxb6613758a
