import Derived.Test.Qxb6615735aRows
import Derived.Test.Qxb6615735aLaws
namespace Go.Proofs.Qxb6615735a
open Go.RowKit
variable {P : Program} (w : World)

/-- Each cell is a byte. -/
def Bytes8 (cs : List Value) : Prop := ∀ v ∈ cs, ∃ n, v = .int .u8 n

theorem Bytes8.one {cs : List Value} (h : Bytes8 cs) : ∀ v ∈ cs, v.oneCell' = true := fun v hv => by
  obtain ⟨n, rfl⟩ := h v hv
  rfl

/-- An array of bytes is equal to itself. -/
theorem run_equalIn_self (d : Nat) (t e : TypeId) (n : Nat) (ht : P.underlying t = some (.array n e)) (he : P.underlying e = some (.int .u8)) (hsz : ∀ w, (sizeOf e).run P w = .ok 1 w)
    (cs : List Value) (hc : cs.length = n) (h8 : Bytes8 cs) :
    (Op.equalIn (d + 2) t (.agg cs.toArray) (.agg cs.toArray)).run P w = .ok true w := by
  rw [Op.equalIn]
  simp only [Sem.run_bind, run_underlying ht, Result.andThen_ok, hsz, Std.Legacy.Range.forIn_eq_forIn_range', Std.Legacy.Range.size, Nat.sub_zero, Nat.add_sub_cancel, Nat.div_one]
  have hl : ∀ i ∈ List.range' 0 n 1, i < n := fun i hi => by simpa using (List.mem_range'_1.1 hi).2
  generalize List.range' 0 n 1 = l at hl ⊢
  induction l with
  | nil => simp
  | cons i l ih =>
    have hi : i < n := hl i (by simp)
    obtain ⟨z, hz⟩ := h8 cs[i] (List.getElem_mem _)
    have px : (part e cs.toArray (i * 1)).run P w = .ok (.int .u8 z) w := by
      simp [part, isAgg, run_underlying he, List.getElem?_eq_getElem (show i < cs.length by omega), hz]
    have pe : (Op.equalIn (d + 1) e (.int .u8 z) (.int .u8 z)).run P w = .ok true w := by
      rw [run_equalIn_int w d e .u8 .u8 _ _ he]
      simp
    simp only [List.forIn_cons, Sem.run_bind, px, pe, Result.andThen_ok]
    simp only [Bool.not_true, Bool.false_eq_true, if_false, Sem.run_pure, Result.andThen_ok]
    exact ih fun j hj => hl j (by simp [hj])

theorem wpQuiet_neq_self {ops : Array Oper} {rest : List Oper} {op : Oper} {a : Act} {C : World → Prop} {Q : Act → Prop} (hgd : Region.wanted op (yielded ops a.tmps) = true) (t t' : TypeId) (x y : Operand)
    (ho : op.op = .binOp .neq t x y t') (e : TypeId) (n : Nat) (ht : P.underlying t = some (.array n e)) (he : P.underlying e = some (.int .u8)) (hsz : ∀ w, (sizeOf e).run P w = .ok 1 w) (hg : P.eqGuardType P.depth t = false)
    (cs : List Value) (hc : cs.length = n) (h8 : Bytes8 cs) (hx : a.eval x = .agg cs.toArray) (hy : a.eval y = .agg cs.toArray)
    (h : wpQuiet P ops C Q rest (a.put op.dst (.bool false))) : wpQuiet P ops C Q (op :: rest) a :=
  wpQuiet_run hgd (.bool false) (fun w _ => by
    unfold execOp
    simp only [ho, hx, hy, Sem.run_bind, run_eqGuard_agg w .neq t x y _ _ hg, Result.andThen_ok, run_neq_struct, run_equalIn_self w 9998 t e n ht he hsz cs hc h8]
    rfl) h
end Go.Proofs.Qxb6615735a
