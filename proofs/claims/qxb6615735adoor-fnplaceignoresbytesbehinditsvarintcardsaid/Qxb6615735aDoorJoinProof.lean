import Derived.Test.Qxb6615735aDoorTwoProof
import Derived.Test.Qxb6615735aDoorJoin
namespace Go.Proofs.Qxb6615735aDoor
open Go.ChangeShapes Go.WideShapes Go.ChangeAt Go.RowKit
set_option linter.unusedVariables false

namespace fnPlaceIgnoresBytesBehindItsVarint

theorem walk (w : World) (a a' : Option Addr) (n c m c' : Nat) (N : Int) (Z Y : Nat → Nat) (t : TypeId) (x : Value) (hn : n ≤ maxLen) (hm : m ≤ maxLen) (h1 : (Lit.int .i64 N).wf = true)
    (hZ : ∀ i, Z i < 256) (hY : ∀ i, Y i < 256) (hA : RowAt w a n Z) (hB : RowAt w a' m Y) (hE : w.cell? ⟨0, 0, none⟩ = some (.iface t x)) :
    Calls Tryd.prog 4 #[.slice a n c, .slice a' m c', .int .i64 N] w fun e w' => e = .returned (.bool true) ∧ Below w.heap.size w w' := by
  have b1 := bounds_i64 h1
  by_cases hg : n ≤ 524288 ∧ m ≤ 524288 ∧ 0 ≤ N
  · exact walk4_good w a a' n c m c' N Z Y t x hg.1 hg.2.1 ⟨hg.2.2, by omega⟩ hZ hY hA hB hE
  · refine (walk4_bad w a a' n c m c' N hn hm ⟨by omega, by omega⟩ hg).mono ?_
    rintro e w' ⟨rfl, rfl⟩
    exact ⟨rfl, Below.refl _ _⟩

set_option maxRecDepth 100000 in
theorem lifted (os : Os) (started : os.Started) (H : Type) (enc : TypeId × Value → H) :
    ReturnsInHanded {} Tryd.checked os 4 .any (fun w args => (Rows.fnPlaceIgnoresBytesBehindItsVarintSpec.pre enc Tryd.prog Tryd.f4 [] false w args ∧ laidMetH Tryd.prog listed w) ∧ sizedMet enc Tryd.prog Tryd.f4 (OpenSpec.ofChange Rows.fnPlaceIgnoresBytesBehindItsVarintSpec) false w args)
      (Rows.fnPlaceIgnoresBytesBehindItsVarintSpec.post enc Tryd.prog Tryd.f4 false true false false) := by
  refine returnsInHanded_of_change_and (C := Tryd.checked) (X := fun w _ => laidMetH Tryd.prog listed w) (fun _ _ _ hh h => h.of_heap hh) own started (by kernel_rfl) Tryd.func4
    (ChangeSpec.witness_shaped (enc := enc) (C := Tryd.checked) (os := os) (X := fun w _ => laidMetH Tryd.prog listed w) false (World.doorLaid Tryd.prog 400 os) #[.slice none 0 0, .slice none 0 0, .int .i64 0] 8 rfl (World.shaped_of_RefB (by kernel_rfl) (by kernel_rfl)) (by kernel_rfl) (by kernel_rfl) (by kernel_rfl) (door_met os _)) ?_
  intro W base args ds gs before hval0 hW _ _ hL _
  have hval : ∀ (j : Nat) t v, Tryd.f4.params[j]? = some t → args[j]? = some v → Value.okWide Tryd.prog W .any base t v := hval0
  have hW' := hW
  obtain ⟨p, q, hA0, hV0, rfl, hfz, hnd⟩ := hW
  have hA : DataW.TrodAll enc Tryd.prog W 0 (fun _ => true) true Tryd.f4.params.toList args.toList ds p := hA0
  have hV : DataW.TrodVars enc Tryd.prog W (fun _ => true) [vname] gs q := hV0
  rw [Tryd.params4] at hA hval
  obtain ⟨v0, vs0, d0, ds0, p0, q0, hargs, rfl, rfl, h0, r0⟩ := trodAll_cons hA
  obtain ⟨v1, vs1, d1, ds1, p1, q1, rfl, rfl, rfl, h1, r1⟩ := trodAll_cons r0
  obtain ⟨v2, vs2, d2, ds2, p2, q2, rfl, rfl, rfl, h2, r2⟩ := trodAll_cons r1
  obtain ⟨rfl, rfl, rfl⟩ := trodAll_nil r2
  obtain rfl : args = #[v0, v1, v2] := by cases args; simp_all
  obtain ⟨a0, len0, cap0, rfl⟩ := okWide_slice Tryd.underlying22 (hval 0 22 v0 rfl rfl)
  have k0 := h0
  have lt0 : ∀ x ∈ p0, x.block < W.heap.size := by obtain ⟨m, hm⟩ := k0; exact DataW.trod_lt m _ _ _ hm
  obtain ⟨a1, len1, cap1, rfl⟩ := okWide_slice Tryd.underlying22 (hval 1 22 v1 rfl rfl)
  have k1 := h1
  have lt1 : ∀ x ∈ p1, x.block < W.heap.size := by obtain ⟨m, hm⟩ := k1; exact DataW.trod_lt m _ _ _ hm
  obtain ⟨x2, rfl, rfl, rfl, w2⟩ := open_int Tryd.underlying3 (hval 2 3 v2 rfl rfl) h2
  obtain ⟨hl0, Z, hZA, hZ⟩ := open_bytes k0
  obtain ⟨hl1, Y, hYA, hY⟩ := open_bytes k1
  obtain ⟨u, v, hv⟩ := of_laid hL
  obtain ⟨rfl, rfl⟩ := hV.unique (vars_read enc hv trivial _)
  have hc : W.cell? ⟨0, 0, none⟩ = some (.iface u v) := by simpa using World.var?_cell gErr hv 0
  have hW0 : 0 < W.heap.size := World.block_lt_of_cell? W _ hc
  clear hA0 hV0 hval0
  refine (walk W a0 a1 len0 cap0 len1 cap1 x2 Z Y u v hl0 hl1 w2 hZ hY hZA hYA hc).mono fun e W' ⟨he, bel⟩ => ?_
  subst he
  exact ⟨_, rfl, _, _, _, [], _, [.cell 0 0], hW', trodAll_mk1 (shut_bool Tryd.underlying4 _), (trodAll_cons_mk (Below.trod laidOut (by kernel_rfl) (of_decide_eq_true (by kernel_rfl)) k0 bel lt0) (trodAll_cons_mk (Below.trod laidOut (by kernel_rfl) (of_decide_eq_true (by kernel_rfl)) k1 bel lt1) (trodAll_cons_mk (shut_int Tryd.underlying3 w2) trodAll_mk0))), vars_read enc (var?_below bel gErr hW0 hv) trivial _, bel.frame _, fun h => by cases h⟩

theorem over : Rows.FnPlaceIgnoresBytesBehindItsVarintSaid :=
  OpenClaim.holds_of_wide 4 Tryd.f4 rfl rfl rfl rfl rfl rfl rfl ⟨rfl, rfl, rfl, rfl, rfl⟩ rfl rfl rfl rfl rfl (by kernel_rfl) Tryd.func4 (by kernel_rfl)
    (of_decide_eq_true (by kernel_rfl)) (by unfold Func.isWrapper; first | (rw [if_pos (by decide +kernel)]; kernel_rfl) | (rw [if_neg (by decide +kernel)]; exact ⟨rfl, rfl⟩))
    (fun os started H enc _ => lifted os started H enc)

theorem proved : Rows.FnPlaceIgnoresBytesBehindItsVarintCardSaid :=
  Claim7.holds_tied_plain_at .later [] [.sentinel] true (true, "f4fa78b8bc09025931f7edb5e27cd2b121222f73cb13ed00ec02f057e4bcf86a") false
    over (fun _ h => by cases h) (by kernel_rfl) (fun _ h => by cases h) fnPlaceIgnoresBytesBehindItsVarint_row_tie rfl ⟨rfl, rfl⟩ (by kernel_rfl) rfl
    (fun f fn hf hfn => by
      obtain rfl : f = 4 := Option.some.inj ((show Tryd.prog.funcNamed Rows.fnPlaceIgnoresBytesBehindItsVarintRow.func = some 4 by kernel_rfl).symm.trans hf) |>.symm
      obtain rfl : fn = Tryd.f4 := (Option.some.inj (Tryd.func4.symm.trans hfn)).symm
      exact ⟨by kernel_rfl, fun j t ht => by
        rw [Tryd.params4] at ht
        have hm : t ∈ [22, 22, 3] := by simpa using Array.mem_of_getElem? ht
        have hall : ([22, 22, 3].all fun u => !Tryd.prog.wantsStandIn u) = true := by kernel_rfl
        exact (show Tryd.prog.wantsStandIn t = false by simpa using List.all_eq_true.1 hall t hm)⟩)
    (by kernel_rfl)
end fnPlaceIgnoresBytesBehindItsVarint
end Go.Proofs.Qxb6615735aDoor
