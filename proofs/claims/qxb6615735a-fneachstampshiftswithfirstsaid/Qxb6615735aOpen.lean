import Derived.Test.Qxb6615735aRows
import Derived.Test.Qxb6615735aEq
import Derived.WalkKit
import Derived.ProofKit
import Derived.OpenShut
import Derived.ShutString
import Derived.ChangeOld
import Derived.Below
import Derived.Deep.Slices
namespace Go.Proofs.Qxb6615735a
open Go.ChangeShapes Go.WideShapes Go.ChangeAt Go.RowKit
set_option linter.unusedVariables false

theorem cellsOf35 : Try.prog.cellsOf 35 = 32 := by kernel_rfl
theorem cellsOf5 : Try.prog.cellsOf 5 = 1 := by kernel_rfl
theorem cellsOf23 : Try.prog.cellsOf 23 = 1 := by kernel_rfl

theorem addr_plain {w : World} {a : Addr} {i : Nat} {v : Value} (h : w.cell? (a.add (0 * i)) = some v) : ∃ b off, a = ⟨b, off, none⟩ := by
  obtain ⟨b, off, spot⟩ := a
  have hspot : spot = none := by simpa [Addr.add] using World.cell?_spot h
  subst hspot
  exact ⟨b, off, rfl⟩

/-- What is told of a slice of arrays of 32 bytes that came in. -/
theorem open_ids {H : Type} {enc : TypeId × Value → H} {w : World} {a : Option Addr} {len cap : Nat} {d : DataW H} {p : List MemPlace}
    (h : DataW.Trod enc Try.prog w 0 (fun _ => true) true 24 (.slice a len cap) d p) : len ≤ maxLen ∧ ∃ I : Nat → List Value, ArrAt w a len 32 I ∧ ∀ i, i < len → Bytes8 (I i) := by
  obtain ⟨fuel, hf⟩ := h
  rcases Deep.open_slice Try.underlying24 hf with ⟨hcs, _⟩ | ⟨x, l, c, m, n, D, Pl, hcs, _, hl, hm, hmm, _, hx⟩
  · simp [Value.cells] at hcs
    obtain ⟨rfl, rfl, rfl⟩ := hcs
    exact ⟨Nat.zero_le _, fun _ => [], fun h => absurd h (by omega), fun i hi => absurd hi (by omega)⟩
  · simp [Value.cells] at hcs
    obtain ⟨rfl, rfl, rfl⟩ := hcs
    simp only [if_true] at hmm
    subst hmm
    refine ⟨by omega, ?_⟩
    rw [cellsOf35] at hx
    obtain ⟨I, hI⟩ := Deep.choose_lt (α := List Value) hx
    have hb : ∀ i, i < m → (I i).length = 32 ∧ (∀ j, j < 32 → w.cell? ((x.add (i * 32)).add j) = (I i)[j]?) ∧ Bytes8 (I i) := fun i hi => by
      obtain ⟨h1, h2⟩ := hI i hi
      obtain ⟨_, hlen, hc⟩ := World.cells?_some h1
      refine ⟨hlen, hc, fun v hv => ?_⟩
      obtain ⟨xs, m', _, _, _, hxl, hel⟩ := DataW.trod_array Try.underlying35 h2
      obtain ⟨j, hj, rfl⟩ := List.getElem_of_mem hv
      have hj32 : j < 32 := by omega
      have := hel j hj32
      rw [cellsOf5, Nat.mul_one, List.getElem?_eq_getElem (by omega)] at this
      obtain ⟨z, hz, _⟩ := DataW.trod_int Try.underlying5 this
      rw [List.drop_eq_getElem_cons hj] at hz
      simp only [List.take_succ_cons, List.take_zero, List.cons.injEq, and_true] at hz
      exact ⟨z, hz⟩
    refine ⟨I, fun hn => ?_, fun i hi => (hb i (by omega)).2.2⟩
    have h0 := hb 0 (by omega)
    have hc0 := h0.2.1 0 (by omega)
    rw [List.getElem?_eq_getElem (by omega)] at hc0
    obtain ⟨b, off, rfl⟩ : ∃ b off, x = ⟨b, off, none⟩ := by
      obtain ⟨b, off, spot⟩ := x
      have hspot : spot = none := by simpa [Addr.add] using World.cell?_spot hc0
      subst hspot
      exact ⟨b, off, rfl⟩
    refine ⟨b, off, rfl, fun i hi => ⟨(hb i (by omega)).1, fun j v hv => ?_⟩⟩
    have hj : j < 32 := by
      have := (List.getElem?_eq_some_iff.1 hv).1
      rw [(hb i (by omega)).1] at this
      exact this
    have := (hb i (by omega)).2.1 j hj
    rw [Addr.add_mid, Addr.add_mid] at this
    rw [this]
    exact hv

/-- What is told of a slice of uint64 that came in. -/
theorem open_skips {H : Type} {enc : TypeId × Value → H} {w : World} {a : Option Addr} {len cap : Nat} {d : DataW H} {p : List MemPlace}
    (h : DataW.Trod enc Try.prog w 0 (fun _ => true) true 25 (.slice a len cap) d p) : len ≤ maxLen ∧ ∃ S : Nat → Int, ArrAt w a len 1 (fun i => [.int .u64 (S i)]) ∧ ∀ i, 0 ≤ S i := by
  obtain ⟨fuel, hf⟩ := h
  rcases open_ints Try.underlying25 Try.underlying23 cellsOf23 hf with ⟨hcs, _⟩ | ⟨x, l, c, zs, hcs, _, hl, hm, hz, _, hcell, hwz⟩
  · simp [Value.cells] at hcs
    obtain ⟨rfl, rfl, rfl⟩ := hcs
    exact ⟨Nat.zero_le _, fun _ => 0, fun h => absurd h (by omega), fun i => Int.le_refl _⟩
  · simp [Value.cells] at hcs
    obtain ⟨rfl, rfl, rfl⟩ := hcs
    simp only [if_true] at hz
    refine ⟨by omega, fun i => zs.getD i 0, fun hn => ?_, fun i => ?_⟩
    · obtain ⟨b, off, rfl, hc⟩ := ints_at hcell (by omega)
      refine ⟨b, off, rfl, fun i hi => ⟨rfl, fun j v hv => ?_⟩⟩
      match j, hv with
      | 0, hv =>
        simp only [List.getElem?_cons_zero, Option.some.injEq] at hv
        subst hv
        simpa using hc i (by omega)
    · by_cases hi : i < zs.length
      · have := bounds_u64 (hwz _ (List.getElem_mem hi))
        simp [List.getD, hi]
        omega
      · simp [List.getD, hi]
end Go.Proofs.Qxb6615735a
