import Derived.WalkKit
import Derived.StillTail
import Derived.BigQuiet
import Derived.Deep.MidRow
namespace Go.Proofs.Qxb6608683a
open Go.RowKit
variable {P : Program}

/-- 'n' elements of 'sz' cells each lie from the slice's head on. -/
def ArrAt (w : World) (a : Option Addr) (n sz : Nat) (I : Nat → List Value) : Prop :=
  0 < n → ∃ b off, a = some ⟨b, off, none⟩ ∧ ∀ i, i < n → (I i).length = sz ∧ w.rangeAt b (off + i * sz) (I i)

/-- What is quiet for one world alone is still there. -/
theorem still_of_quiet {o : Oper} {a : Act} {w : World} {K : Act → Prop} (h : o.quiet P a (fun x => x = w) K) : o.still P a w K := by
  obtain ⟨v, h1, h2⟩ := h
  have h3 := h1 w rfl
  unfold Oper.quietAt at h3
  unfold Oper.still
  generalize (execOp a.eval o).run P w = r at *
  cases r with
  | ok n w' =>
    cases n <;> simp only [Oper.quietUpon] at h3 <;> simp only [Oper.stillUpon]
    case value u => obtain ⟨e1, e2⟩ := h3; rw [e2]; exact ⟨e1, h2⟩
    case skip => obtain ⟨e1, e2⟩ := h3; rw [← e2]; exact ⟨e1, h2⟩
    case enter f args => obtain ⟨e1, hc⟩ := h3; exact ⟨e1, v, hc, h2⟩
  | halt x w' => simp only [Oper.quietUpon] at h3

theorem wpStill_of_quiet {ops : Array Oper} {w : World} {Q : Act → Prop} : ∀ (l : List Oper) (a : Act), wpQuiet P ops (fun x => x = w) Q l a → wpStill P ops w Q l a
  | [], _, h => h
  | o :: l, a, h => by
    unfold wpQuiet at h
    unfold wpStill
    split
    · rename_i hw
      rw [if_pos hw] at h
      exact still_of_quiet (Oper.quiet_mono (fun a' h' => wpStill_of_quiet l a' h') h)
    · rename_i hw
      rw [if_neg hw] at h
      exact wpStill_of_quiet l _ h

/-- A region that draws its order: 'n' operations that only read, walked in the text's order, then a tail that is forced. -/
theorem wp_region_quiet_tail {id : Nat} {Q : Exit → Act → World → Prop} {a : Act} {w : World} {l : List Oper} (n : Nat) (hm : P.follows .mixedOrders = true) (hB : Region.lexTailB .any l.toArray n = true)
    (h : wpQuiet P l.toArray (fun x => x = w.drew) (fun a' => wpList P l.toArray Q (l.drop n) a' w.drew) (l.take n) a) : (Code.region id l.toArray true).wp P Q a w :=
  wp_region_still_tail n hm hB (wpStill_of_quiet _ _ h)

/-- A load of many cells in a quiet walk. -/
theorem quiet_load_mid {op : Oper} {a : Act} {C : World → Prop} {K : Act → Prop} (ty : TypeId) (x : Operand) (ho : op.op = .load ty x)
    (b o : Nat) (hx : a.eval x = .pointer (some ⟨b, o, none⟩)) (cs : List Value) (d : TypeDesc) (hc : ∀ w, C w → w.rangeAt b o cs)
    (hu : P.underlying ty = some d) (hd : d.isRow = true) (hi : (P.info? ty).map (·.size) = some cs.length)
    (h : K (a.put op.dst (.agg cs.toArray))) : op.quiet P a C K := by
  refine ⟨_, fun w hw => ?_, h⟩
  unfold Oper.quietAt execOp
  simp only [ho, hx, Instr.loadAt, Instr.sureAddr, Sem.run_bind, Sem.run_pure, Result.andThen_ok, run_loadVar_mid w b o ty cs d (hc w hw) hu hd hi]
  exact ⟨rfl, rfl⟩

theorem wpQuiet_load_mid {ops : Array Oper} {rest : List Oper} {op : Oper} {a : Act} {C : World → Prop} {Q : Act → Prop} (hgd : op.guard = none) (ty : TypeId) (x : Operand) (ho : op.op = .load ty x)
    (b o : Nat) (hx : a.eval x = .pointer (some ⟨b, o, none⟩)) (cs : List Value) (d : TypeDesc) (hc : ∀ w, C w → w.rangeAt b o cs)
    (hu : P.underlying ty = some d) (hd : d.isRow = true) (hi : (P.info? ty).map (·.size) = some cs.length)
    (h : wpQuiet P ops C Q rest (a.put op.dst (.agg cs.toArray))) : wpQuiet P ops C Q (op :: rest) a :=
  wpQuiet_step fun _ hK => by rw [if_pos (by simp [Region.wanted, hgd])]; exact quiet_load_mid ty x ho b o hx cs d hc hu hd hi (hK _ h)

/-- One operation of a quiet walk by its own run. -/
theorem wpQuiet_run {ops : Array Oper} {rest : List Oper} {op : Oper} {a : Act} {C : World → Prop} {Q : Act → Prop} (hgd : Region.wanted op (yielded ops a.tmps) = true) (v : Value)
    (hr : ∀ w, C w → (execOp a.eval op).run P w = .ok (.value v) w) (h : wpQuiet P ops C Q rest (a.put op.dst v)) : wpQuiet P ops C Q (op :: rest) a :=
  wpQuiet_step fun _ hK => by
    rw [if_pos hgd]
    exact ⟨v, fun w hw => by unfold Oper.quietAt; rw [hr w hw]; exact ⟨rfl, rfl⟩, hK _ h⟩

/-- A struct's value built, in a quiet walk. -/
theorem wpQuiet_build {ops : Array Oper} {rest : List Oper} {op : Oper} {a : Act} {C : World → Prop} {Q : Act → Prop} (hgd : Region.wanted op (yielded ops a.tmps) = true) (t : TypeId) (parts : List (Nat × Operand))
    (ho : op.op = .build t parts.toArray) (v : Value) (vs : List (Nat × Value)) (hvs : (parts.map fun (i, x) => (i, a.eval x)) = vs)
    (hr : ∀ w, C w → (Instr.build t vs.toArray).run P w = .ok v w) (h : wpQuiet P ops C Q rest (a.put op.dst v)) : wpQuiet P ops C Q (op :: rest) a :=
  wpQuiet_run hgd v (fun w hw => by
    unfold execOp
    simp only [ho, Sem.run_bind, List.map_toArray, hvs, hr w hw]
    rfl) h

/-- A new block's cells are there, and may be written. -/
theorem there_new (w : World) (M : Array Value) (t : TypeId) (n : Nat) (h : n ≤ M.size) : (w.alloc (.cells M t)).there w.heap.size 0 n := fun j hj => by
  have hg : (w.alloc (.cells M t)).heap[w.heap.size]? = some (.cells M t (0, 0)) := heap_alloc_new w _
  refine ⟨?_, frozen_of_row _ _ _ _ _ hg⟩
  rw [cell_of_row _ _ _ _ _ _ hg]
  simp
  omega

/-- A range below B is as it was. -/
theorem range_below {B : Nat} {w w' : World} (h : Below B w w') {b o : Nat} {cs : List Value} (hb : b < B) (hr : w.rangeAt b o cs) : w'.rangeAt b o cs :=
  fun j v hv => (h.cell (p := ⟨b, o + j, none⟩) hb).trans (hr j v hv)

/-- A range that is not empty lies in a block that is there. -/
theorem range_lt {w : World} {b o : Nat} {cs : List Value} (hr : w.rangeAt b o cs) (hl : 0 < cs.length) : b < w.heap.size :=
  World.block_lt_of_cell? w _ (hr 0 cs[0] (List.getElem?_eq_getElem hl))

theorem Below.setCells {B : Nat} {a : World} {b : Nat} (hb : B ≤ b) : ∀ (vs : List Value) (o : Nat) (w : World), Below B a w → Below B a (w.setCells b o vs)
  | [], _, _, h => h
  | v :: r, o, w, h => by
    rw [World.setCells]
    exact Below.setCells hb r (o + 1) _ (h.setCell (p := ⟨b, o, none⟩) hb v)

theorem size_setCells (b : Nat) : ∀ (vs : List Value) (o : Nat) (w : World), (w.setCells b o vs).heap.size = w.heap.size
  | [], _, _ => rfl
  | v :: r, o, w => by
    rw [World.setCells, size_setCells b r (o + 1) _]
    simp [World.setCell]

/-- One operation of a plain region by its own run. -/
theorem wpList_run {ops : Array Oper} {rest : List Oper} {op : Oper} {a : Act} {w w' : World} {Q : Exit → Act → World → Prop} (hgd : op.guard = none) (v : Value)
    (hr : (execOp a.eval op).run P w = .ok (.value v) w') (h : wpList P ops Q rest (a.put op.dst v) w') : wpList P ops Q (op :: rest) a w :=
  wpList_plain hgd fun _ hK => by unfold Oper.wp; rw [hr]; exact hK _ _ h

theorem wpList_buildSlice {ops : Array Oper} {rest : List Oper} {op : Oper} {a : Act} {w w' : World} {Q : Exit → Act → World → Prop} (hgd : op.guard = none) (t n : Nat) (parts : List (Nat × Operand))
    (ho : op.op = .buildSlice t n parts.toArray) (v : Value) (vs : List (Nat × Value)) (hvs : (parts.map fun (i, x) => (i, a.eval x)) = vs)
    (hr : (Instr.buildSlice t n vs.toArray).run P w = .ok v w') (h : wpList P ops Q rest (a.put op.dst v) w') : wpList P ops Q (op :: rest) a w :=
  wpList_run hgd v (by
    unfold execOp
    simp only [ho, Sem.run_bind, List.map_toArray, hvs, hr]
    rfl) h

/-- The cells of a new block. -/
theorem range_new (w : World) (cs : List Value) (t : TypeId) : (w.alloc (.cells cs.toArray t)).rangeAt w.heap.size 0 cs := fun j v hv => by
  have hg : (w.alloc (.cells cs.toArray t)).heap[w.heap.size]? = some (.cells cs.toArray t (0, 0)) := heap_alloc_new w _
  rw [cell_of_row _ _ _ _ _ _ hg]
  simpa using hv

/-- A store of many cells; the world behind it gets a name. -/
theorem wpList_store_named {ops : Array Oper} {rest : List Oper} {op : Oper} {a : Act} {w : World} {Q : Exit → Act → World → Prop} (hgd : op.guard = none) (ty : TypeId) (x y : Operand) (ho : op.op = .store ty x y)
    (b o : Nat) (cs : List Value) (hx : a.eval x = .pointer (some ⟨b, o, none⟩)) (hy : a.eval y = .agg cs.toArray)
    (ht : w.there b o cs.length) (hi : (P.info? ty).map (·.size) = some cs.length) (h1 : ∀ v ∈ cs, v.oneCell' = true)
    (h : ∀ W, Hid (W = w.setCells b o cs) → wpList P ops Q rest (a.put op.dst undef) W) : wpList P ops Q (op :: rest) a w :=
  wpList_store_mid hgd ty x y ho b o cs.toArray hx hy (by simpa using ht) (by simpa using hi) (all_oneCell_toArray h1) (h _ (show _ = _ by simp))

theorem own_setCells_below {base e size n : Nat} {v : Value} {xs : List Value} {b : Nat} (hb : b < base) : ∀ (vs : List Value) (o : Nat) (w : World), w.ownsRow base e size v n xs → (w.setCells b o vs).ownsRow base e size v n xs
  | [], _, _, h => h
  | x :: r, o, w, h => by
    rw [World.setCells]
    exact own_setCells_below hb r (o + 1) _ (ownsRow_setCell_below h hb x)

end Go.Proofs.Qxb6608683a
