import Derived.Test.Qxb6615735aDoorBytes
import Derived.Test.Qxb6615735aDoorZz
import Derived.WideLaws
namespace Go.Proofs.Qxb6615735aDoor
open Go.RowKit
set_option linter.unusedSimpArgs false
set_option linter.unusedVariables false

/-- The decoder at block D holds the slice s and the error e. -/
structure DecAt (w : World) (D : Nat) (s e : Value) : Prop where
  c0 : w.cell? ⟨D, 0, none⟩ = some s
  c1 : w.cell? ⟨D, 1, none⟩ = some e
  f0 : w.frozen? ⟨D, 0, none⟩ = false
  f1 : w.frozen? ⟨D, 1, none⟩ = false

theorem DecAt.set0 {w : World} {D : Nat} {s e : Value} (h : DecAt w D s e) (v : Value) : DecAt (w.setCell ⟨D, 0, none⟩ v) D v e :=
  ⟨World.cell?_setCell_same _ _ _ h.c0, (World.cell?_setCell_other _ _ _ _ (by intro e; injection e with _ e; omega)).trans h.c1, by simp [h.f0], by simp [h.f1]⟩
theorem DecAt.set1 {w : World} {D : Nat} {s e : Value} (h : DecAt w D s e) (v : Value) : DecAt (w.setCell ⟨D, 1, none⟩ v) D s v :=
  ⟨(World.cell?_setCell_other _ _ _ _ (by intro e; injection e with _ e; omega)).trans h.c0, World.cell?_setCell_same _ _ _ h.c1, by simp [h.f0], by simp [h.f1]⟩

/-- Only block D has been written. -/
structure Only (D : Nat) (w w' : World) : Prop where
  os : w'.os = w.os
  tape : w'.tape = w.tape
  output : w'.output = w.output
  size : w'.heap.size = w.heap.size
  block : ∀ k, k ≠ D → w'.heap[k]? = w.heap[k]?

theorem Only.refl (D : Nat) (w : World) : Only D w w := ⟨rfl, rfl, rfl, rfl, fun _ _ => rfl⟩
theorem Only.set {D : Nat} {w w' : World} (h : Only D w w') (o : Nat) (v : Value) : Only D w (w'.setCell ⟨D, o, none⟩ v) :=
  ⟨h.os, h.tape, h.output, (size_setCell _ _ _).trans h.size, fun k hk => (Below.heap_setCell _ _ _ _ hk).trans (h.block k hk)⟩
theorem Only.trans {D : Nat} {a b c : World} (h : Only D a b) (k : Only D b c) : Only D a c :=
  ⟨k.os.trans h.os, k.tape.trans h.tape, k.output.trans h.output, k.size.trans h.size, fun i hi => (k.block i hi).trans (h.block i hi)⟩

/-- A row of other memory is as it was. -/
theorem row_only {D : Nat} {w w' : World} (h : Only D w w') {a : Option Addr} {n : Nat} {Z : Nat → Nat} (hD : ∀ x, a = some x → x.block ≠ D) (hA : RowAt w a n Z) : RowAt w' a n Z := fun hn => by
  obtain ⟨b, off, ha, hc⟩ := hA hn
  exact ⟨b, off, ha, fun i hi => (World.cell?_of_block (w := w) (w' := w') (a := ⟨b, off + i, none⟩) (h.block b (hD _ ha))).trans (hc i hi)⟩

/-- 's[k:]' of a slice of bytes. -/
theorem wpList_reslice {ops : Array Oper} {rest : List Oper} {op : Oper} {a : Act} {w : World} {Q : Exit → Act → World → Prop} (hgd : Region.wanted op (yielded ops a.tmps) = true) (x lo : Operand) (ho : op.op = .slice 22 x (some lo) none none)
    (A : Option Addr) (n c k : Nat) (hx : a.eval x = .slice A n c) (hlo : a.eval lo = .int .i64 (k : Int)) (hk : k ≤ n) (hnc : n ≤ c)
    (h : ∀ A', Hid (∀ W Z, RowAt W A n Z → RowAt W A' (n - k) (fun i => Z (k + i))) → Hid (∀ D : Nat, (∀ x, A = some x → x.block ≠ D) → ∀ x, A' = some x → x.block ≠ D) →
      wpList Tryd.prog ops Q rest (a.put op.dst (.slice A' (n - k) (c - k))) w) : wpList Tryd.prog ops Q (op :: rest) a w := by
  have hsz : (sizeOf 5).run Tryd.prog w = .ok 1 w := by kernel_rfl
  have hr : (Instr.slice 22 (.slice A n c) (some (.int .i64 (k : Int))) none none).run Tryd.prog w = .ok (.slice (if c = k then A else A.map (·.add k)) (n - k) (c - k)) w := by
    simp only [Instr.slice, Sem.run_bind, run_underlying Tryd.underlying22, Result.andThen_ok, Instr.sliceBounds, Sem.run_pure]
    rw [run_sliceBound w .i64 (k : Int) n _ (by omega) (by omega)]
    simp [hsz]
  refine wpList_step fun K hK => ?_
  rw [if_pos hgd]
  unfold Oper.wp execOp
  simp only [ho, hx, hlo, Option.map_some, Option.map_none, Instr.sliceAt, Sem.run_bind, run_underlying Tryd.underlying22, Result.andThen_ok, hr]
  refine hK _ _ (h (if c = k then A else A.map (·.add k)) ?_ ?_)
  · intro W Z hA hn
    obtain ⟨b, off, rfl, hc⟩ := hA (by omega)
    refine ⟨b, off + k, ?_, fun i hi => ?_⟩
    · rw [if_neg (by omega)]
      simp [Addr.add_mid]
    · have := hc (k + i) (by omega)
      rwa [← Nat.add_assoc] at this
  · intro D hD x hx
    split at hx
    · exact hD x hx
    · cases A with
      | none => simp at hx
      | some y =>
        simp only [Option.map_some, Option.some.injEq] at hx
        subst hx
        have := hD y rfl
        unfold Addr.add
        split <;> simpa using this

theorem uvarint17v (w : World) (a : Option Addr) (n c v : Nat) (k : Int) (Z : Nat → Nat) (hn : n ≤ 1048576) (hZ : ∀ i, Z i < 256) (hA : RowAt w a n Z) (hv : uv Z n = (v, k)) :
    Calls Tryd.prog 17 #[.slice a n c] w fun e w' => e = .returned (.tuple #[.int .u64 (v : Int), .int .i64 k]) ∧ w' = w := by
  have := uvarint17 w a n c Z hn hZ hA
  rw [hv] at this
  exact this

set_option maxHeartbeats 1000000 in
theorem uvarint16_err (w : World) (D : Nat) (s : Value) (t : TypeId) (x : Value) (h : DecAt w D s (.iface t x)) :
    Calls Tryd.prog 16 #[.pointer (some ⟨D, 0, none⟩)] w fun e w' => e = .returned (.int .u64 0) ∧ w' = w := by
  obtain ⟨c0, c1, f0, f1⟩ := h
  go_enter Tryd.func16, Tryd.ntmps16
  go_wp2
  go_ret
  exact ⟨rfl, rfl⟩

set_option maxHeartbeats 1000000 in
theorem uvarint16_short (w : World) (D : Nat) (a : Option Addr) (n c v : Nat) (k : Int) (Z : Nat → Nat) (t : TypeId) (x : Value) (hn : n ≤ 1048576) (hZ : ∀ i, Z i < 256) (hA : RowAt w a n Z) (hv : uv Z n = (v, k)) (hk : k ≤ 0)
    (hE : w.cell? ⟨0, 0, none⟩ = some (.iface t x)) (h : DecAt w D (.slice a n c) .nilIface) :
    Calls Tryd.prog 16 #[.pointer (some ⟨D, 0, none⟩)] w fun e w' => e = .returned (.int .u64 0) ∧ w' = w.setCell ⟨D, 1, none⟩ (.iface t x) := by
  obtain ⟨c0, c1, f0, f1⟩ := h
  go_enter Tryd.func16, Tryd.ntmps16
  go_wp2_with (go_at_call 17; go_must (refine (uvarint17v w a n c v k Z hn hZ hA hv).mono ?_))
  rintro e w1 ⟨rfl, rfl⟩
  go_wp2
  go_ret
  exact ⟨rfl, rfl⟩

/-- Behind a number that was read: the decoder goes on behind it. -/
def Took (D n c k : Nat) (a : Option Addr) (e : Value) (w : World) (w' : World) : Prop :=
  ∃ a', DecAt w' D (.slice a' (n - k) (c - k)) e ∧ Only D w w' ∧ (∀ W Z, RowAt W a n Z → RowAt W a' (n - k) (fun i => Z (k + i))) ∧ (∀ D : Nat, (∀ x, a = some x → x.block ≠ D) → ∀ x, a' = some x → x.block ≠ D)

set_option maxHeartbeats 1000000 in
theorem uvarint16_good (w : World) (D : Nat) (a : Option Addr) (n c v k : Nat) (Z : Nat → Nat) (hn : n ≤ 1048576) (hnc : n ≤ c) (hZ : ∀ i, Z i < 256) (hA : RowAt w a n Z) (hv : uv Z n = (v, (k : Int))) (hk : 0 < k) (hkn : k ≤ n)
    (h : DecAt w D (.slice a n c) .nilIface) :
    Calls Tryd.prog 16 #[.pointer (some ⟨D, 0, none⟩)] w fun e w' => e = .returned (.int .u64 (v : Int)) ∧ Took D n c k a .nilIface w w' := by
  have hd := h
  obtain ⟨c0, c1, f0, f1⟩ := h
  go_enter Tryd.func16, Tryd.ntmps16
  go_wp2_with (go_at_call 17; go_must (refine (uvarint17v w a n c v k Z hn hZ hA hv).mono ?_))
  rintro e w1 ⟨rfl, rfl⟩
  go_wp2_with (refine wpList_reslice rfl (.tmp 28) (.tmp 29) rfl a n c k rfl rfl hkn hnc ?_)
  intro a' H1 H2
  have T : Took D n c k a .nilIface w1 (w1.setCell ⟨D, 0, none⟩ (.slice a' (n - k) (c - k))) := ⟨a', hd.set0 _, (Only.refl _ _).set _ _, H1.out, H2.out⟩
  clear hd
  go_wp2
  go_ret
  exact ⟨rfl, T⟩
end Go.Proofs.Qxb6615735aDoor
