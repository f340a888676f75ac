import Derived.Test.Qxb6615735aRows
import Derived.Test.Qxb6615735aLaws
import Derived.WalkKit
import Derived.WalkSpells
import Derived.WalkLawsBesides
namespace Go.Proofs.Qxb6615735a
open Go.RowKit
set_option linter.unusedSimpArgs false
set_option linter.unusedVariables false

theorem slice_id_lit (c0 c1 c2 c3 c4 c5 c6 c7 c8 c9 c10 c11 c12 c13 c14 c15 c16 c17 c18 c19 c20 c21 c22 c23 c24 c25 c26 c27 c28 c29 c30 c31 : Value) (w : World) :
    (Instr.buildSlice 27 1 #[(0, .agg #[c0, c1, c2, c3, c4, c5, c6, c7, c8, c9, c10, c11, c12, c13, c14, c15, c16, c17, c18, c19, c20, c21, c22, c23, c24, c25, c26, c27, c28, c29, c30, c31])]).run Try.prog w = .ok (.slice (some ⟨w.heap.size, 0, none⟩) 1 1) (w.alloc (.cells #[c0, c1, c2, c3, c4, c5, c6, c7, c8, c9, c10, c11, c12, c13, c14, c15, c16, c17, c18, c19, c20, c21, c22, c23, c24, c25, c26, c27, c28, c29, c30, c31] 36)) := by kernel_rfl

theorem slice_id (cs : List Value) (hcs : cs.length = 32) (w : World) :
    (Instr.buildSlice 27 1 #[(0, .agg cs.toArray)]).run Try.prog w = .ok (.slice (some ⟨w.heap.size, 0, none⟩) 1 1) (w.alloc (.cells cs.toArray 36)) := by
  match cs, hcs with
  | [c0, c1, c2, c3, c4, c5, c6, c7, c8, c9, c10, c11, c12, c13, c14, c15, c16, c17, c18, c19, c20, c21, c22, c23, c24, c25, c26, c27, c28, c29, c30, c31], _ => exact slice_id_lit c0 c1 c2 c3 c4 c5 c6 c7 c8 c9 c10 c11 c12 c13 c14 c15 c16 c17 c18 c19 c20 c21 c22 c23 c24 c25 c26 c27 c28 c29 c30 c31 w

theorem info36 : (Try.prog.info? 36).map (fun i => (i.zero, i.size, i.bytes)) = some (some (.agg (List.replicate 32 (Value.int .u8 0)).toArray), 32, 32) := by kernel_rfl
theorem info23 : (Try.prog.info? 23).map (fun i => (i.zero, i.size, i.bytes)) = some (some (.int .u64 0), 1, 8) := by kernel_rfl

/-- Below 'base', but for the blocks x and y, w' is as w was. -/
structure KeptB (base x y : Nat) (w w' : World) : Prop where
  os : w'.os = w.os
  tape : w'.tape = w.tape
  output : w'.output = w.output
  size : w.heap.size ≤ w'.heap.size
  block : ∀ k, k < base → k ≠ x → k ≠ y → w'.heap[k]? = w.heap[k]?

/-- Two boxes hold two rows of n elements each. -/
def Boxes (base gI gS n : Nat) (xI xS : List Value) (w w' : World) : Prop :=
  ∃ vI' vS', w'.cell? ⟨gI, 0, none⟩ = some vI' ∧ w'.cell? ⟨gS, 0, none⟩ = some vS' ∧ w'.frozen? ⟨gI, 0, none⟩ = false ∧ w'.frozen? ⟨gS, 0, none⟩ = false ∧
        w'.ownsRow base 36 32 vI' n xI ∧ w'.ownsRow base 23 1 vS' n xS ∧ KeptB base gI gS w w'

/-- A slice that owns at least one element is not nil. -/
theorem own_form {w : World} {base e size n : Nat} {v : Value} {xs : List Value} (h : w.ownsRow base e size v n xs) (hn : 0 < n) : ∃ g cap, v = .slice (some ⟨g, 0, none⟩) n cap := by
  rcases h.2 with ⟨_, h0⟩ | ⟨g, cap, _, hv, _⟩
  · omega
  · exact ⟨g, cap, hv⟩

theorem own_block_ne {w : World} {base e size n g : Nat} {v : Value} {xs : List Value} (h : w.ownsRow base e size v n xs) (hg : g < base) : some g ≠ v.ownBlock := fun e => by
  have := h.lt g e.symm
  omega

theorem size_setCell (w : World) (a : Addr) (v : Value) : (w.setCell a v).heap.size = w.heap.size := by simp [World.setCell]

/-- Rows of two types lie in two blocks. -/
theorem own_apart {w : World} {base e size n base' e' size' n' : Nat} {v v' : Value} {xs xs' : List Value} (h : w.ownsRow base e size v n xs) (h' : w.ownsRow base' e' size' v' n' xs') (he : e ≠ e') :
    v.ownBlock = none ∨ v.ownBlock ≠ v'.ownBlock := by
  rcases h.2 with ⟨rfl, _⟩ | ⟨g, cap, cur, rfl, _, hg, _⟩
  · exact .inl rfl
  · right
    rcases h'.2 with ⟨rfl, _⟩ | ⟨g', cap', cur', rfl, _, hg', _⟩
    · simp [Value.ownBlock]
    · intro hh
      simp only [Value.ownBlock, Option.some.injEq] at hh
      subst hh
      rw [hg] at hg'
      injection hg' with hh
      injection hh with _ h2
      exact he h2

theorem grown_cell {w w' : World} {row : Option Nat} (hg : w.grownBy w' row) {g o : Nat} (hl : g < w.heap.size) (hne : some g ≠ row) : w'.cell? ⟨g, o, none⟩ = w.cell? ⟨g, o, none⟩ :=
  World.cell?_of_block (hg.block g hl hne)
theorem grown_frozen {w w' : World} {row : Option Nat} (hg : w.grownBy w' row) {g o : Nat} (hl : g < w.heap.size) (hne : some g ≠ row) : w'.frozen? ⟨g, o, none⟩ = w.frozen? ⟨g, o, none⟩ :=
  World.frozen?_of_block (hg.block g hl hne)

set_option maxHeartbeats 400000 in
theorem clo11 (id : List Value) (st : Int) (gI gS base n : Nat) (vI vS : Value) (xI xS : List Value) (w : World) (hid : id.length = 32) (hid1 : ∀ v ∈ id, v.oneCell' = true) (hne : gI ≠ gS) (hgI : gI < base) (hgS : gS < base)
    (hbase : base ≤ w.heap.size) (hn : n ≤ 32768) (hcI : w.cell? ⟨gI, 0, none⟩ = some vI) (hcS : w.cell? ⟨gS, 0, none⟩ = some vS) (hfI : w.frozen? ⟨gI, 0, none⟩ = false) (hfS : w.frozen? ⟨gS, 0, none⟩ = false)
    (hoI : w.ownsRow base 36 32 vI n xI) (hoS : w.ownsRow base 23 1 vS n xS) :
    Calls Try.prog 11 #[.agg id.toArray, .int .u64 st, .pointer (some ⟨gI, 0, none⟩), .pointer (some ⟨gS, 0, none⟩)] w fun e w' =>
      e = .returned (.tuple #[]) ∧ Boxes base gI gS (n + 1) (xI ++ id) (xS ++ [.int .u64 st]) w w' := by
  obtain ⟨i36, hi36, hz36, hs36, hb36⟩ := info_parts info36
  obtain ⟨i23, hi23, hz23, hs23, hb23⟩ := info_parts info23
  have hsz36 : (Try.prog.info? 36).map (·.size) = some id.length := by rw [hid]; kernel_rfl
  have hlI : gI < w.heap.size := by omega
  have hlS : gS < w.heap.size := by omega
  go_enter Try.func11, Try.ntmps11
  go_wp2_with (first
    | (refine wpList_load_mid rfl 36 (.tmp 4) rfl w.heap.size 0 rfl id _ (range_new _ _ _) Try.underlying36 rfl hsz36 ?_)
    | (refine wpList_buildSlice rfl 27 1 _ rfl _ [(0, .agg id.toArray)] rfl (slice_id id hid _) ?_)
    | (at_builtin; go_must (refine wpList_append_own _ rfl (.tmp 6) (.tmp 8) 27 rfl base 36 i36 _ 32 32 Try.underlying27 hi36 hz36 hs36 hb36 rfl (by decide) vI n xI rfl ((hoI.alloc _).alloc _) _ 1 1 id rfl hid ?c1 hid1 ?c3 ?c4 ?c5 ?_)))
  case c1 =>
    intro j u hj
    rw [Addr.add_mid]
    exact range_new _ id 36 j u hj
  case c3 => unfold maxLen; omega
  case c4 => omega
  case c5 => simp; omega
  · intro v1 w1 hown1 hgrow1 _
    obtain ⟨g1, cap1, hv1⟩ := own_form hown1 (by omega)
    rw [hv1] at hown1 ⊢
    have hsz1 : w.heap.size + 2 ≤ w1.heap.size := by have := hgrow1.size; simpa using this
    have hbk : ∀ k, k < base → w1.heap[k]? = w.heap[k]? := fun k hk => by
      rw [hgrow1.block k (by simp; omega) (own_block_ne hoI hk), Below.heap_alloc _ _ _ (by simp; omega), Below.heap_alloc _ _ _ (by omega)]
    have hc1I : w1.cell? ⟨gI, 0, none⟩ = some vI := (World.cell?_of_block (hbk gI hgI)).trans hcI
    have hc1S : w1.cell? ⟨gS, 0, none⟩ = some vS := (World.cell?_of_block (hbk gS hgS)).trans hcS
    have hf1I : w1.frozen? ⟨gI, 0, none⟩ = false := (World.frozen?_of_block (hbk gI hgI)).trans hfI
    have hf1S : w1.frozen? ⟨gS, 0, none⟩ = false := (World.frozen?_of_block (hbk gS hgS)).trans hfS
    have hoS1 : w1.ownsRow base 23 1 vS n xS := ((hoS.alloc _).alloc _).kept hgrow1 (own_apart hoS hoI (by decide))
    have HB : Hid (∀ k, k < base → w1.heap[k]? = w.heap[k]?) := hbk
    have HW : Hid (w1.os = w.os ∧ w1.tape = w.tape ∧ w1.output = w.output) := ⟨hgrow1.os, hgrow1.tape, hgrow1.output⟩
    clear hcI hcS hfI hfS hoI hoS hgrow1 hbk hv1
    go_wp2_with (first
      | (at_builtin; go_must (refine wpList_append_own _ rfl (.tmp 10) (.tmp 12) 25 rfl base 23 i23 _ 1 8 Try.underlying25 hi23 hz23 hs23 hb23 rfl (by decide) vS n xS rfl ((ownsRow_setCell_below hoS1 hgI _).alloc _) _ 1 1 [.int .u64 st] rfl rfl ?c1 ?c2 ?c3 ?c4 ?c5 ?_)))
    case c1 =>
      intro j u hj
      rw [Addr.add_mid]
      have := range_new (w1.setCell ⟨gI, 0, none⟩ (.slice (some ⟨g1, 0, none⟩) (n + 1) cap1)) [.int .u64 st] 23 j u hj
      rw [size_setCell] at this
      exact this
    case c2 => intro u hu; simp at hu; subst hu; rfl
    case c3 => unfold maxLen; omega
    case c4 => omega
    case c5 => simp; omega
    · intro v2 w2 hown2 hgrow2 _
      obtain ⟨g2, cap2, hv2⟩ := own_form hown2 (by omega)
      rw [hv2] at hown2 ⊢
      generalize hv1 : Value.slice (some ⟨g1, 0, none⟩) (n + 1) cap1 = v1 at *
      have hsz2 : w1.heap.size + 1 ≤ w2.heap.size := by have := hgrow2.size; simpa [size_setCell] using this
      have hbk2 : ∀ k, k < base → w2.heap[k]? = (w1.setCell ⟨gI, 0, none⟩ v1).heap[k]? := fun k hk => by
        rw [hgrow2.block k (by simp [size_setCell]; omega) (own_block_ne hoS1 hk), Below.heap_alloc _ _ _ (by simp [size_setCell]; omega)]
      have hc2I : w2.cell? ⟨gI, 0, none⟩ = some v1 := (World.cell?_of_block (hbk2 gI hgI)).trans (World.cell?_setCell_same _ _ _ hc1I)
      have hc2S : w2.cell? ⟨gS, 0, none⟩ = some vS := (World.cell?_of_block (hbk2 gS hgS)).trans ((World.cell?_setCell_other _ _ _ _ (by intro e; injection e with e; omega)).trans hc1S)
      have hf2I : w2.frozen? ⟨gI, 0, none⟩ = false := (World.frozen?_of_block (hbk2 gI hgI)).trans (by simp [hf1I])
      have hf2S : w2.frozen? ⟨gS, 0, none⟩ = false := (World.frozen?_of_block (hbk2 gS hgS)).trans (by simp [hf1S])
      have hoI2 : w2.ownsRow base 36 32 v1 (n + 1) (xI ++ id) := ((ownsRow_setCell_below hown1 hgI _).alloc _).kept hgrow2 (own_apart hown1 hoS1 (by decide))
      have HB2 : Hid (∀ k, k < base → w2.heap[k]? = (w1.setCell ⟨gI, 0, none⟩ v1).heap[k]?) := hbk2
      have HW2 : Hid (w2.os = w.os ∧ w2.tape = w.tape ∧ w2.output = w.output) := ⟨hgrow2.os.trans HW.out.1, hgrow2.tape.trans HW.out.2.1, hgrow2.output.trans HW.out.2.2⟩
      have F : Boxes base gI gS (n + 1) (xI ++ id) (xS ++ [.int .u64 st]) w (w2.setCell ⟨gS, 0, none⟩ (.slice (some ⟨g2, 0, none⟩) (n + 1) cap2)) := by
        refine ⟨v1, _, (World.cell?_setCell_other _ _ _ _ (by intro e; injection e with e; omega)).trans hc2I, World.cell?_setCell_same _ _ _ hc2S, by simp [hf2I], by simp [hf2S], ownsRow_setCell_below hoI2 hgS _, ownsRow_setCell_below hown2 hgS _, HW2.out.1, HW2.out.2.1, HW2.out.2.2, by rw [size_setCell]; omega, fun k hk h1 h2 => ?_⟩
        rw [Below.heap_setCell _ _ _ _ h2, HB2.out k hk, Below.heap_setCell _ _ _ _ h1, HB.out k hk]
      clear hown1 hown2 hgrow2 hoS1 hoI2 hbk2 hc1I hc1S hf1I hf1S hv1 hv2
      go_wp2
      go_end0
      exact ⟨rfl, F⟩
end Go.Proofs.Qxb6615735a
