import Derived.Test.Qxb6613758aLaws
import Derived.OrdersHeld
import Derived.StillTail
import Derived.Deep.RegionHeld3
namespace Go.Proofs.Qxb6613758a
open Go.RowKit
set_option linter.unusedVariables false
variable {P : Program} {ops : Array Oper} {Q : Exit → Act → World → Prop} {md : Region.Mode} {S : World → Prop}

/-- An operation that ends with a value wherever it ends. -/
def readOp : Op → Bool
  | .move _ | .assign _ | .build .. | .load .. | .fieldAddr .. | .indexAddr .. => true
  | _ => false

theorem read_bind {s : Sem Value} {w w' : World} {x : Next} (h : (do pure (Next.value (← s)) : Sem Next).run P w = .ok x w') : ∃ v, x = .value v := by
  rw [Sem.run_bind] at h
  cases e : Sem.run P s w with
  | ok v w1 =>
    rw [e] at h
    simp only [Result.andThen_ok, Sem.run_pure, Result.ok.injEq] at h
    exact ⟨v, h.1.symm⟩
  | halt y w1 =>
    rw [e] at h
    simp [Result.andThen] at h

theorem read_value {o : Oper} (h : readOp o.op = true) {a : Act} {w w' : World} {x : Next} (hr : (execOp a.eval o).run P w = .ok x w') : ∃ v, x = .value v := by
  obtain ⟨dst, op, ty, pos, after, guard⟩ := o
  cases op <;> simp only [readOp, Bool.false_eq_true] at h
  case move y => simp only [execOp, Sem.run_pure, Result.ok.injEq] at hr; exact ⟨_, hr.1.symm⟩
  case assign y => simp only [execOp, Sem.run_pure, Result.ok.injEq] at hr; exact ⟨_, hr.1.symm⟩
  all_goals exact read_bind hr

theorem yields_of_quiet {o : Oper} {a : Act} {K : Act → Prop} (ho : readOp o.op = true) (hw : Region.wanted o (yielded ops a.tmps) = true) (h : o.quiet P a S K) : ∃ v, YieldsIf P ops S o v a ∧ K (a.put o.dst v) := by
  obtain ⟨v, h1, h2⟩ := h
  refine ⟨v, .inl ⟨hw, fun w hS => ?_⟩, h2⟩
  have h3 := h1 w hS
  unfold Oper.quietAt at h3
  cases e : (execOp a.eval o).run P w with
  | ok n w' =>
    rw [e] at h3
    obtain ⟨u, rfl⟩ := read_value ho e
    simp only [Oper.quietUpon] at h3
    rw [h3.1, h3.2]
  | halt x w' => rw [e] at h3; simp only [Oper.quietUpon] at h3

/-- The tail, operation by operation; S is shown anew behind each. -/
def wpListS (P : Program) (ops : Array Oper) (Q : Exit → Act → World → Prop) (S : World → Prop) : List Oper → Act → World → Prop
  | [], a, w => Q .normal a w
  | o :: rest, a, w => Region.wanted o (yielded ops a.tmps) = true ∧ o.wp P a w (fun a' w' => S w' ∧ wpListS P ops Q S rest a' w') Q

theorem wpAnyH_seq : ∀ (l : List Oper) (k : Nat) (listed : Array Bool) (a : Act) (w : World), (∀ j, l[j]? = ops[k + j]?) →
    Region.seqB md ops l.length k listed = true → wpListS P ops Q S l a w → wpAnyH P md ops Q S l.length listed a w
  | [], _, _, _, _, _, hB, h => ⟨by simpa [Region.seqB] using hB, h⟩
  | o :: l, k, listed, a, w, hl, hB, h => by
    have h0 : ops[k]? = some o := by simpa using (hl 0).symm
    simp only [List.length_cons, Region.seqB, Bool.and_eq_true, decide_eq_true_eq] at hB
    refine ⟨fun h1 => (by rw [hB.1] at h1; cases h1), fun i hi => ?_⟩
    rw [hB.1] at hi
    have hik : i = k := by simpa using hi
    subst hik
    have hl' : ∀ j, l[j]? = ops[i + 1 + j]? := fun j => by
      have := hl (j + 1)
      simpa [Nat.add_assoc, Nat.add_comm 1 j] using this
    unfold wpOp
    simp only [h0, h.1, if_true]
    exact .inl (Oper.wp_mono (fun a' w' h' => ⟨h'.1, wpAnyH_seq l (i + 1) _ a' w' hl' hB.2 h'.2⟩) h.2)

theorem wpAnyH_lex {g : Nat} {w : World} {Lq : Act → Prop} (hsel : Region.noSelect ops = true) (hQ : ∀ c d v a w, Q (.panic c) (Act.put a d v) w → Q (.panic c) a w) (hS : S w) :
    ∀ (l : List Oper) (k : Nat) (listed : Array Bool) (a : Act), (∀ j, j < l.length → l[j]? = ops[k + j]?) → l.all (fun o => readOp o.op) = true → Region.lexHead md ops g l.length k listed = true →
    (∀ listed' a', Region.seqB md ops g (k + l.length) listed' = true → Lq a' → wpAnyH P md ops Q S g listed' a' w) → wpQuiet P ops S Lq l a → wpAnyH P md ops Q S (l.length + g) listed a w
  | [], k, listed, a, _, _, hB, hT, h => by
    rw [List.length_nil, Nat.zero_add]
    exact hT listed a (by simpa [Region.lexHead] using hB) h
  | o :: l, k, listed, a, hl, hr, hB, hT, h => by
    have h0 : ops[k]? = some o := by simpa using (hl 0 (by simp)).symm
    simp only [List.length_cons, Region.lexHead, Bool.and_eq_true] at hB
    obtain ⟨⟨hrd, hf⟩, hB'⟩ := hB
    simp only [List.all_cons, Bool.and_eq_true] at hr
    have key : ∃ v, YieldsIf P ops S o v a ∧ wpQuiet P ops S Lq l (a.put o.dst v) := by
      unfold wpQuiet at h
      by_cases hw : Region.wanted o (yielded ops a.tmps) = true
      · rw [if_pos hw] at h
        exact yields_of_quiet hr.1 hw h
      · rw [if_neg hw] at h
        exact ⟨undef, .inr ⟨by simpa using hw, rfl⟩, h⟩
    obtain ⟨v, hy, hrest⟩ := key
    rw [List.length_cons, show l.length + 1 + g = (l.length + g) + 1 by omega]
    refine wpAnyH_take h0 hsel hf hrd (fun c a w => hQ c _ _ a w) hy hS ?_
    refine wpAnyH_lex hsel hQ hS l (k + 1) _ _ (fun j hj => ?_) hr.2 hB' (fun listed' a' hq => hT listed' a' (by rw [List.length_cons, show k + (l.length + 1) = k + 1 + l.length by omega]; exact hq)) hrest
    have := hl (j + 1) (by simp; omega)
    simpa [Nat.add_assoc, Nat.add_comm 1 j] using this

/-- What is asked of the region: closed. -/
def heldTailB (ops : Array Oper) (n : Nat) : Bool :=
  Region.noSelect ops && decide (n < ops.size) && (ops.toList.take n).all (fun o => readOp o.op) && Region.lexHead .any ops (ops.size - n) n 0 (Array.replicate ops.size false)

/-- A region that draws its order: n operations that only read what S tells, then operations in a forced order, each of which keeps S. -/
theorem wp_region_held_tail {id : Nat} {a : Act} {w : World} {l : List Oper} (n : Nat) (S : World → Prop) (hm : P.follows .mixedOrders = true) (hB : heldTailB l.toArray n = true) (hS : S w.drew)
    (hQ : ∀ c d v a w, Q (.panic c) (Act.put a d v) w → Q (.panic c) a w)
    (h : wpQuiet P l.toArray S (fun a' => wpListS P l.toArray Q S (l.drop n) a' w.drew) (l.take n) a) : (Code.region id l.toArray true).wp P Q a w := by
  simp only [heldTailB, Bool.and_eq_true, decide_eq_true_eq] at hB
  obtain ⟨⟨⟨hsel, hn⟩, hr⟩, hlex⟩ := hB
  have hn' : n < l.length := by simpa using hn
  have htl : (l.take n).length = n := by simp; omega
  have hdl : (l.drop n).length = l.toArray.size - n := by simp
  refine wp_region_held (S := S) hm ?_
  have H := wpAnyH_lex (P := P) (Q := Q) (md := .any) (g := l.toArray.size - n) (w := w.drew) hsel hQ hS (l.take n) 0 (Array.replicate l.toArray.size false) a (fun j hj => by
    have hj' : j < n := by rw [htl] at hj; exact hj
    simp [hj']) hr (by rw [htl]; exact hlex) (fun listed' a' hq hL => by
      have := wpAnyH_seq (P := P) (Q := Q) (S := S) (md := .any) (l.drop n) n listed' a' w.drew (fun j => by simp [List.getElem?_drop]) (by rw [hdl]; rw [htl, Nat.zero_add] at hq; exact hq) hL
      rwa [hdl] at this) h
  rw [htl, show n + (l.toArray.size - n) = l.toArray.size by omega] at H
  exact H

/-- One operation of a quiet walk that runs one instruction. -/
theorem wpQuiet_val {rest : List Oper} {op : Oper} {a : Act} {L : Act → Prop} (hgd : Region.wanted op (yielded ops a.tmps) = true) (s : Sem Value) (he : execOp a.eval op = (do pure (Next.value (← s)))) (v : Value)
    (hr : ∀ w, S w → s.run P w = .ok v w) (h : wpQuiet P ops S L rest (a.put op.dst v)) : wpQuiet P ops S L (op :: rest) a :=
  wpQuiet_run hgd v (fun w hw => by rw [he, Sem.run_bind, hr w hw]; rfl) h

/-- A move in a quiet walk. -/
theorem wpQuiet_mov {rest : List Oper} {op : Oper} {a : Act} {L : Act → Prop} (hgd : Region.wanted op (yielded ops a.tmps) = true) (v : Value) (he : execOp a.eval op = pure (Next.value v))
    (h : wpQuiet P ops S L rest (a.put op.dst v)) : wpQuiet P ops S L (op :: rest) a :=
  wpQuiet_run hgd v (fun w hw => by rw [he]; rfl) h

/-- One operation of the tail by its own run. -/
theorem wpListS_run {rest : List Oper} {op : Oper} {a : Act} {w w' : World} (hgd : Region.wanted op (yielded ops a.tmps) = true) (v : Value) (hr : (execOp a.eval op).run P w = .ok (.value v) w') (hS : S w')
    (h : wpListS P ops Q S rest (a.put op.dst v) w') : wpListS P ops Q S (op :: rest) a w :=
  ⟨hgd, by unfold Oper.wp; rw [hr]; exact ⟨hS, h⟩⟩

theorem wpListS_val {rest : List Oper} {op : Oper} {a : Act} {w w' : World} (hgd : Region.wanted op (yielded ops a.tmps) = true) (s : Sem Value) (he : execOp a.eval op = (do pure (Next.value (← s)))) (v : Value)
    (hr : s.run P w = .ok v w') (hS : S w') (h : wpListS P ops Q S rest (a.put op.dst v) w') : wpListS P ops Q S (op :: rest) a w :=
  wpListS_run hgd v (by rw [he, Sem.run_bind, hr]; rfl) hS h

theorem wpListS_buildSlice {rest : List Oper} {op : Oper} {a : Act} {w w' : World} (hgd : Region.wanted op (yielded ops a.tmps) = true) (t n : Nat) (parts : List (Nat × Operand))
    (ho : op.op = .buildSlice t n parts.toArray) (v : Value) (vs : List (Nat × Value)) (hvs : (parts.map fun (i, x) => (i, a.eval x)) = vs)
    (hr : (Instr.buildSlice t n vs.toArray).run P w = .ok v w') (hS : S w') (h : wpListS P ops Q S rest (a.put op.dst v) w') : wpListS P ops Q S (op :: rest) a w :=
  wpListS_run hgd v (by
    unfold execOp
    simp only [ho, Sem.run_bind, List.map_toArray, hvs, hr]
    rfl) hS h

/-- A call of a Go function in the tail. -/
theorem wpListS_call {rest : List Oper} {op : Oper} {a : Act} {w : World} (hgd : Region.wanted op (yielded ops a.tmps) = true) (f : Nat) (args : Array Value) (hr : (execOp a.eval op).run P w = .ok (.enter f args) w)
    (h : Calls P f args w fun e w' => ∃ v, e = .returned v ∧ S w' ∧ wpListS P ops Q S rest (a.put op.dst v) w') : wpListS P ops Q S (op :: rest) a w := by
  refine ⟨hgd, ?_⟩
  unfold Oper.wp
  rw [hr]
  refine Calls.mono h fun e w' he => ?_
  obtain ⟨v, rfl, hS, hl⟩ := he
  exact ⟨hS, hl⟩
end Go.Proofs.Qxb6613758a
