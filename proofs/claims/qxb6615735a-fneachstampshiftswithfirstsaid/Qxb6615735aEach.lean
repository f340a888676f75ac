import Derived.Test.Qxb6615735aItems
import Derived.Test.Qxb6615735aClo
namespace Go.Proofs.Qxb6615735a
open Go.RowKit
set_option linter.unusedSimpArgs false
set_option linter.unusedVariables false

/-- The stamp ahead of item k. -/
def stampAt (first : Int) (S : Nat → Int) : Nat → Int
  | 0 => first
  | k + 1 => IntKind.u64.wrap (stampAt first S k + if 0 < S k then S k else 1)

/-- The calls of the first k items: the item's number, the stamp. -/
def callsTo (first : Int) (S : Nat → Int) : Nat → List (Nat × Int)
  | 0 => []
  | k + 1 => if 0 < S k then callsTo first S k else callsTo first S k ++ [(k, stampAt first S k)]

theorem callsTo_le (first : Int) (S : Nat → Int) : ∀ k, (callsTo first S k).length ≤ k
  | 0 => by simp [callsTo]
  | k + 1 => by
    have := callsTo_le first S k
    unfold callsTo
    split <;> simp <;> omega

def idCells (I : Nat → List Value) (l : List (Nat × Int)) : List Value := l.flatMap fun p => I p.1
def stCells (l : List (Nat × Int)) : List Value := l.map fun p => .int .u64 p.2

theorem size42 : (Try.prog.info? 42).map (·.size) = some 33 := by kernel_rfl
theorem size36 : (Try.prog.info? 36).map (·.size) = some 32 := by kernel_rfl

/-- Behind EachStamp: the two boxes hold the two rows; below N nothing has turned. -/
def EachPost (N n : Nat) (xI xS : List Value) (w0 w' : World) : Prop :=
  ∃ vI vS, w'.cell? ⟨N, 0, none⟩ = some vI ∧ w'.cell? ⟨N + 1, 0, none⟩ = some vS ∧ w'.ownsRow (N + 3) 36 32 vI n xI ∧ w'.ownsRow (N + 3) 23 1 vS n xS ∧ Below N w0 w'

theorem KeptB.below {N base : Nat} {w0 w w' : World} (hb : Below N w0 w) (h : KeptB base N (N + 1) w w') (hN : N ≤ base) : Below N w0 w' :=
  hb.trans ⟨h.os, h.tape, h.output, h.size, fun k hk => h.block k (by omega) (by omega) (by omega)⟩

set_option maxHeartbeats 1000000 in
theorem each10 (w0 w : World) (sb m c N : Nat) (a : Option Addr) (first : Int) (I : Nat → List Value) (S : Nat → Int) (hN : w0.heap.size = N) (hsb : sb < N) (hb : Below N w0 w) (hw : w.heap.size = N + 2)
    (hs2 : w0.cell? ⟨sb, 2, none⟩ = some (.int .u64 first)) (hs3 : w0.cell? ⟨sb, 3, none⟩ = some (.slice a m c)) (hm : m ≤ 32768) (hA : ArrAt w0 a m 33 (itemCells I S)) (hI : ∀ i, i < m → (I i).length = 32 ∧ ∀ v ∈ I i, v.oneCell' = true)
    (hcI : w.cell? ⟨N, 0, none⟩ = some (.slice none 0 0)) (hcS : w.cell? ⟨N + 1, 0, none⟩ = some (.slice none 0 0)) (hfI : w.frozen? ⟨N, 0, none⟩ = false) (hfS : w.frozen? ⟨N + 1, 0, none⟩ = false) :
    Calls Try.prog 10 #[.pointer (some ⟨sb, 0, none⟩), .func (.func 11) #[] #[.pointer (some ⟨N, 0, none⟩), .pointer (some ⟨N + 1, 0, none⟩)]] w fun e w' =>
      e = .returned (.tuple #[]) ∧ EachPost N (callsTo first S m).length (idCells I (callsTo first S m)) (stCells (callsTo first S m)) w0 w' := by
  have hs2' : w.cell? ⟨sb, 2, none⟩ = some (.int .u64 first) := (hb.cell (p := ⟨sb, 2, none⟩) hsb).trans hs2
  have hs3' : w.cell? ⟨sb, 3, none⟩ = some (.slice a m c) := (hb.cell (p := ⟨sb, 3, none⟩) hsb).trans hs3
  go_enter Try.func10, Try.ntmps10
  go_wp2_with fail
  go_loopw [4, 16] (fun st i wr => ∃ (k : Nat) (vI vS : Value), k ≤ m ∧ i = .int .i64 k ∧ st = .int .u64 (stampAt first S k) ∧ wr.cell? ⟨N, 0, none⟩ = some vI ∧ wr.cell? ⟨N + 1, 0, none⟩ = some vS ∧
      wr.frozen? ⟨N, 0, none⟩ = false ∧ wr.frozen? ⟨N + 1, 0, none⟩ = false ∧
      wr.ownsRow (N + 3) 36 32 vI (callsTo first S k).length (idCells I (callsTo first S k)) ∧ wr.ownsRow (N + 3) 23 1 vS (callsTo first S k).length (stCells (callsTo first S k)) ∧
      wr.there (N + 2) 0 33 ∧ Below N w0 wr ∧ N + 3 ≤ wr.heap.size)
    (fun _ i _ => m - (intOf i).toNat)
  case atStart =>
    refine ⟨0, .slice none 0 0, .slice none 0 0, by omega, rfl, rfl, ?_, ?_, ?_, ?_, World.ownsRow_nil _ _ _ _, World.ownsRow_nil _ _ _ _, ?_, hb.alloc (by omega) _, by simp; omega⟩
    · rw [World.cell?_alloc_lt _ _ _ (show _ < _ from by first | omega | (simp only []; omega))]; exact hcI
    · rw [World.cell?_alloc_lt _ _ _ (show _ < _ from by first | omega | (simp only []; omega))]; exact hcS
    · rw [World.frozen?_alloc_past _ _ _ (show _ < _ from by first | omega | (simp only []; omega))]; exact hfI
    · rw [World.frozen?_alloc_past _ _ _ (show _ < _ from by first | omega | (simp only []; omega))]; exact hfS
    · rw [← hw]; exact there_new _ _ _ _ (by simp)
  case round =>
    obtain ⟨k, vI, vS, hk, rfl, rfl, hcIr, hcSr, hfIr, hfSr, hoI, hoS, hth, hbr, hsz⟩ := hrel
    clear hcI hcS hfI hfS hs2 hs3 hs2' hs3'
    have hcl := callsTo_le first S k
    by_cases hlt : k < m
    · obtain ⟨ib, io, rfl, hA'⟩ := hA (by omega)
      obtain ⟨hl33, hr0⟩ := hA' k hlt
      have hib : ib < N := by rw [← hN]; exact range_lt hr0 (by omega)
      have hr : wr.rangeAt ib (io + k * 33) (itemCells I S k) := range_below hbr hib hr0
      have hsz42 : (Try.prog.info? 42).map (·.size) = some (itemCells I S k).length := by rw [hl33]; exact size42
      have hth' : wr.there (N + 2) 0 (itemCells I S k).length := by rw [hl33]; exact hth
      have hone : ∀ v ∈ itemCells I S k, v.oneCell' = true := fun v hv => by
        simp only [itemCells, List.mem_append, List.mem_singleton] at hv
        rcases hv with hv | rfl
        · exact (hI k hlt).2 v hv
        · rfl
      go_wp2_with (first
        | (refine wpList_load_mid rfl 42 (.tmp 18) rfl ib (io + k * 33) rfl (itemCells I S k) _ hr Try.underlying42 rfl hsz42 ?_)
        | (refine wpList_store_named rfl 42 (.tmp 6) (.tmp 19) rfl (N + 2) 0 (itemCells I S k) rfl rfl hth' hsz42 hone ?_))
      intro W HW
      have hrW : W.rangeAt (N + 2) 0 (itemCells I S k) := by rw [HW.out]; exact World.rangeAt_setCells_same _ _ _ _ hth'
      have hskW : W.cell? ⟨N + 2, 32, none⟩ = some (.int .u64 (S k)) := by
        have := hrW 32 (.int .u64 (S k)) (by simp [itemCells, (hI k hlt).1])
        simpa using this
      have hidW : W.rangeAt (N + 2) 0 (I k) := fun j v hv => hrW j v (by
        unfold itemCells
        rw [List.getElem?_append_left (List.getElem?_eq_some_iff.1 hv).1]; exact hv)
      have hcW : ∀ b o, b ≠ N + 2 → W.cell? ⟨b, o, none⟩ = wr.cell? ⟨b, o, none⟩ := fun b o h => by
        rw [HW.out]; exact World.cell?_setCells_out _ _ _ _ _ (fun e _ => absurd e h)
      have hfW : ∀ x, W.frozen? x = wr.frozen? x := fun x => by rw [HW.out]; exact World.frozen?_setCells _ _ _ _ _
      have hcIW : W.cell? ⟨N, 0, none⟩ = some vI := (hcW _ _ (by omega)).trans hcIr
      have hcSW : W.cell? ⟨N + 1, 0, none⟩ = some vS := (hcW _ _ (by omega)).trans hcSr
      have hfIW : W.frozen? ⟨N, 0, none⟩ = false := (hfW _).trans hfIr
      have hfSW : W.frozen? ⟨N + 1, 0, none⟩ = false := (hfW _).trans hfSr
      have hoIW : W.ownsRow (N + 3) 36 32 vI (callsTo first S k).length (idCells I (callsTo first S k)) := by rw [HW.out]; exact own_setCells_below (by omega) _ _ _ hoI
      have hoSW : W.ownsRow (N + 3) 23 1 vS (callsTo first S k).length (stCells (callsTo first S k)) := by rw [HW.out]; exact own_setCells_below (by omega) _ _ _ hoS
      have hthW : W.there (N + 2) 0 33 := by rw [HW.out]; exact World.there_setCells hth _ _ _
      have hbW : Below N w0 W := by rw [HW.out]; exact Below.setCells (by omega) _ _ _ hbr
      have hszW : N + 3 ≤ W.heap.size := by rw [HW.out, size_setCells]; exact hsz
      clear hcW hfW hcIr hcSr hfIr hfSr hoI hoS hth hbr hsz HW hth' hr hrW
      by_cases hs : 0 < S k
      · have HST : Hid (stampAt first S (k + 1) = IntKind.u64.wrap (stampAt first S k + S k)) := show _ = _ by simp [stampAt, hs]
        have HCA : Hid (callsTo first S (k + 1) = callsTo first S k) := show _ = _ by simp [callsTo, hs]
        go_wp2
        go_roundw
        case rel =>
          refine ⟨k + 1, vI, vS, by omega, by go_num, ?_, hcIW, hcSW, hfIW, hfSW, ?_, ?_, hthW, hbW, hszW⟩
          · rw [HST.out]
          · rw [HCA.out]; exact hoIW
          · rw [HCA.out]; exact hoSW
        case measure => simp [intOf]; omega
      · have hsz36 : (Try.prog.info? 36).map (·.size) = some (I k).length := by rw [(hI k hlt).1]; exact size36
        go_wp2_with (first
          | (refine wpList_load_mid rfl 36 (.tmp 28) rfl (N + 2) 0 rfl (I k) _ hidW Try.underlying36 rfl hsz36 ?_)
          | (go_at_call 11; go_must (refine (clo11 (I k) (stampAt first S k) N (N + 1) (N + 3) _ vI vS _ _ W (hI k hlt).1 (hI k hlt).2 (by omega) (by omega) (by omega) hszW (by omega) hcIW hcSW hfIW hfSW hoIW hoSW).mono ?_)))
        rintro e w1 rfl hbx
        have HST : Hid (stampAt first S (k + 1) = IntKind.u64.wrap (stampAt first S k + 1)) := show _ = _ by simp [stampAt, show ¬ 0 < S k by omega]
        have HCA : Hid (callsTo first S (k + 1) = callsTo first S k ++ [(k, stampAt first S k)]) := show _ = _ by simp [callsTo, show ¬ 0 < S k by omega]
        go_wp2
        go_roundw
        case rel =>
          obtain ⟨vI1, vS1, h1, h2, h3, h4, h5, h6, h7⟩ := hbx
          refine ⟨k + 1, vI1, vS1, by omega, by go_num, ?_, h1, h2, h3, h4, ?_, ?_, ?_, h7.below hbW (by omega), by have := h7.size; omega⟩
          · rw [HST.out]
          · rw [HCA.out]; simpa [idCells] using h5
          · rw [HCA.out]; simpa [stCells] using h6
          · intro j hj
            have hbk := h7.block (N + 2) (by omega) (by omega) (by omega)
            rw [World.cell?_of_block (w := W) (w' := w1) (a := ⟨N + 2, 0 + j, none⟩) hbk, World.frozen?_of_block (w := W) (w' := w1) (a := ⟨N + 2, 0 + j, none⟩) hbk]
            exact hthW j hj
        case measure => simp [intOf]; omega
    · go_wp2
      go_end0
      obtain rfl : k = m := by omega
      exact ⟨rfl, vI, vS, hcIr, hcSr, hoI, hoS, hbr⟩
end Go.Proofs.Qxb6615735a
