import Derived.Test.Qxb6608683aSmall
import Derived.ProofKit
import Derived.OpenShut
import Derived.ShutString
import Derived.ChangeOld
import Derived.Below
import Derived.Deep.SlicePairs
import Derived.Deep.MidRow
namespace Go.Proofs.Qxb6608683a
open Go.ChangeShapes Go.WideShapes Go.ChangeAt Go.RowKit
set_option linter.unusedVariables false

theorem cellsOf31 : Try.prog.cellsOf 31 = 2 := by kernel_rfl
theorem cellsOf9 : Try.prog.cellsOf 9 = 1 := by kernel_rfl

/-- What is told of a slice of labels that came in. -/
theorem open_labels {H : Type} {enc : TypeId × Value → H} {w : World} {a : Option Addr} {len cap : Nat} {d : DataW H} {p : List MemPlace}
    (h : DataW.Trod enc Try.prog w 0 (fun _ => true) true 22 (.slice a len cap) d p) : len ≤ maxLen ∧ ∃ K V : Nat → ByteArray, LabAt w a len K V ∧ (∀ i, (K i).size ≤ maxLen) ∧ ∀ i, (V i).size ≤ maxLen := by
  obtain ⟨fuel, hf⟩ := h
  rcases Deep.open_slice_pairs Try.underlying22 Try.underlying31 cellsOf31 rfl rfl cellsOf9 cellsOf9 hf with ⟨hcs, _⟩ | ⟨x, l, c, m, n, V0, V1, D0, D1, P0, P1, hcs, _, hl, hm, hmm, _, hx⟩
  · simp [Value.cells] at hcs
    obtain ⟨rfl, rfl, rfl⟩ := hcs
    exact ⟨Nat.zero_le _, fun _ => ByteArray.empty, fun _ => ByteArray.empty, fun h => absurd h (by omega), fun i => by simp, fun i => by simp⟩
  · simp [Value.cells] at hcs
    obtain ⟨rfl, rfl, rfl⟩ := hcs
    simp only [if_true] at hmm
    subst hmm
    refine ⟨by omega, ?_⟩
    have each : ∀ i, ∃ kv : ByteArray × ByteArray, kv.1.size ≤ maxLen ∧ kv.2.size ≤ maxLen ∧ (i < m → V0 i = .string kv.1 ∧ V1 i = .string kv.2) := fun i => by
      by_cases hi : i < m
      · obtain ⟨_, _, t0, t1⟩ := hx i hi
        obtain ⟨s0, e0, _, z0⟩ := DataW.trod_string Try.underlying9 t0
        obtain ⟨s1, e1, _, z1⟩ := DataW.trod_string Try.underlying9 t1
        exact ⟨(s0, s1), z0, z1, fun _ => ⟨by simpa using e0, by simpa using e1⟩⟩
      · exact ⟨(ByteArray.empty, ByteArray.empty), by simp, by simp, fun h => absurd h hi⟩
    refine ⟨fun i => (each i).choose.1, fun i => (each i).choose.2, fun hn => ?_, fun i => (each i).choose_spec.1, fun i => (each i).choose_spec.2.1⟩
    have h0 := (hx 0 (by omega)).1
    obtain ⟨b, off, rfl⟩ : ∃ b off, x = ⟨b, off, none⟩ := by
      obtain ⟨b, off, spot⟩ := x
      have hspot : spot = none := by simpa [Addr.add] using World.cell?_spot h0
      subst hspot
      exact ⟨b, off, rfl⟩
    refine ⟨b, off, rfl, fun i hi => ?_⟩
    have hi' : i < m := by omega
    obtain ⟨e0, e1⟩ := (each i).choose_spec.2.2 hi'
    obtain ⟨c0, c1, _, _⟩ := hx i hi'
    rw [e0] at c0
    rw [e1] at c1
    rw [Addr.add_mid] at c0 c1
    exact ⟨c0, c1⟩
end Go.Proofs.Qxb6608683a
