import Derived.Test.Qxb6615735aDoorTwo
import Derived.Test.Qxb6615735aDoorTie
import Derived.Test.Qxb6615735aDoorCards
import Derived.ProofKit
import Derived.LaidMore
import Derived.LaidLaws
import Derived.OpenShut
import Derived.Stop.Joined
import Derived.RowKitTokens
import Derived.ChangeOld
namespace Go.Proofs.Qxb6615735aDoor
open Go.ChangeShapes Go.WideShapes Go.ChangeAt Go.RowKit
set_option linter.unusedVariables false

theorem own : ownKnob Tryd.prog.godebug = none := by kernel_rfl
theorem laidOut : laidOutB Tryd.prog = true := by kernel_rfl
theorem cellsOf5 : Tryd.prog.cellsOf 5 = 1 := by kernel_rfl
/-- The listed variable's name, as the given row has it. -/
abbrev vname : String := Rows.fnPlaceTwoInARowStickyRefusalSpec.vars.headD ""
theorem gErr : Tryd.prog.globalNamed vname = some 0 := by kernel_rfl
theorem tErr : (Tryd.prog.globals[0]?).map (·.type) = some 30 := by kernel_rfl

/-- What the row lists. -/
abbrev listed : List (String × DataW Unit) := Rows.fnPlaceTwoInARowStickyRefusalRow.laid

/-- The door's own heap meets the condition. -/
theorem door_met (os : Os) (args : Array Value) : laidMetH Tryd.prog listed ((World.doorLaid Tryd.prog 400 os).forCall (fun _ _ => 0) ⟨#[], args, []⟩).memory :=
  laidMetH_of_parts3 (fuel := 8) (laidMet_of_run' 8 (by kernel_rfl) (by kernel_rfl)) (by kernel_rfl) (by kernel_rfl)

/-- The listed variable holds an error that is not nil. -/
theorem of_laid {W : World} (h : laidMetH Tryd.prog listed W) : ∃ u v, W.var? Tryd.prog vname = some #[.iface u v] := by
  rw [MakeChecks.laidMetH_plain _ _ _ (by kernel_rfl)] at h
  obtain ⟨ps, ⟨g0, t0, cs0, f0, p0, q0, hg0, ht0, hv0, hd0, _, _⟩, _, _⟩ := h
  obtain rfl := Option.some.inj (gErr.symm.trans hg0)
  obtain rfl := Option.some.inj (tErr.symm.trans ht0)
  obtain ⟨f1, u, v, hcs, _, _⟩ := iface_of_trod Tryd.underlying30 hd0
  exact ⟨u, v, hv0.trans (congrArg some (Array.eq_one_of_toList hcs))⟩

/-- What is told of a slice of bytes that came in. -/
theorem open_bytes {H : Type} {enc : TypeId × Value → H} {w : World} {a : Option Addr} {len cap : Nat} {d : DataW H} {p : List MemPlace}
    (h : DataW.Trod enc Tryd.prog w 0 (fun _ => true) true 22 (.slice a len cap) d p) : len ≤ maxLen ∧ ∃ Z : Nat → Nat, RowAt w a len Z ∧ ∀ i, Z i < 256 := by
  obtain ⟨fuel, hf⟩ := h
  rcases open_ints Tryd.underlying22 Tryd.underlying5 cellsOf5 hf with ⟨hcs, _⟩ | ⟨x, l, c, zs, hcs, _, hl, hm, hz, _, hcell, hwz⟩
  · simp [Value.cells] at hcs
    obtain ⟨rfl, rfl, rfl⟩ := hcs
    exact ⟨Nat.zero_le _, fun _ => 0, fun h => absurd h (by omega), fun i => by show (0 : Nat) < 256; decide⟩
  · simp [Value.cells] at hcs
    obtain ⟨rfl, rfl, rfl⟩ := hcs
    simp only [if_true] at hz
    have hb : ∀ i, 0 ≤ zs.getD i 0 ∧ zs.getD i 0 ≤ 255 := fun i => by
      by_cases hi : i < zs.length
      · have := bounds_u8 (hwz _ (List.getElem_mem hi))
        simp only [List.getD, List.getElem?_eq_getElem hi, Option.getD_some]
        omega
      · simp [List.getD, hi]
    refine ⟨by omega, fun i => (zs.getD i 0).toNat, fun hn => ?_, fun i => by have := hb i; show (zs.getD i 0).toNat < 256; omega⟩
    obtain ⟨b, off, rfl, hc⟩ := ints_at hcell (by omega)
    refine ⟨b, off, rfl, fun i hi => ?_⟩
    rw [hc i (by omega), Int.toNat_of_nonneg (hb i).1]

theorem vars_read {H : Type} (enc : TypeId × Value → H) {W : World} {x : Value} (h : W.var? Tryd.prog vname = some #[x]) (i : IsIface x) (sp : Nat → Bool) :
    DataW.TrodVars enc Tryd.prog W sp [vname] [tok enc x] [.cell 0 0] :=
  ⟨0, 30, #[x], 1, [], [], gErr, tErr, h, trod_held Tryd.underlying30 i 0, rfl, rfl⟩

namespace fnPlaceTwoInARowStickyRefusal

theorem walk (w : World) (a : Option Addr) (n c : Nat) (n1 n2 : Int) (Z : Nat → Nat) (t : TypeId) (x : Value) (hn : n ≤ maxLen) (h1 : (Lit.int .i64 n1).wf = true) (h2 : (Lit.int .i64 n2).wf = true)
    (hZ : ∀ i, Z i < 256) (hA : RowAt w a n Z) (hE : w.cell? ⟨0, 0, none⟩ = some (.iface t x)) :
    Calls Tryd.prog 3 #[.slice a n c, .int .i64 n1, .int .i64 n2] w fun e w' => e = .returned (.bool true) ∧ Below w.heap.size w w' := by
  have b1 := bounds_i64 h1
  have b2 := bounds_i64 h2
  by_cases hg : n ≤ 1048576 ∧ 0 ≤ n1 ∧ 0 ≤ n2
  · exact walk3_good w a n c n1 n2 Z t x hg.1 ⟨hg.2.1, by omega⟩ ⟨hg.2.2, by omega⟩ hZ hA hE
  · refine (walk3_bad w a n c n1 n2 hn ⟨by omega, by omega⟩ ⟨by omega, by omega⟩ hg).mono ?_
    rintro e w' ⟨rfl, rfl⟩
    exact ⟨rfl, Below.refl _ _⟩

set_option maxRecDepth 100000 in
theorem lifted (os : Os) (started : os.Started) (H : Type) (enc : TypeId × Value → H) :
    ReturnsInHanded {} Tryd.checked os 3 .any (fun w args => (Rows.fnPlaceTwoInARowStickyRefusalSpec.pre enc Tryd.prog Tryd.f3 [] false w args ∧ laidMetH Tryd.prog listed w) ∧ sizedMet enc Tryd.prog Tryd.f3 (OpenSpec.ofChange Rows.fnPlaceTwoInARowStickyRefusalSpec) false w args)
      (Rows.fnPlaceTwoInARowStickyRefusalSpec.post enc Tryd.prog Tryd.f3 false true false false) := by
  refine returnsInHanded_of_change_and (C := Tryd.checked) (X := fun w _ => laidMetH Tryd.prog listed w) (fun _ _ _ hh h => h.of_heap hh) own started (by kernel_rfl) Tryd.func3
    (ChangeSpec.witness_shaped (enc := enc) (C := Tryd.checked) (os := os) (X := fun w _ => laidMetH Tryd.prog listed w) false (World.doorLaid Tryd.prog 400 os) #[.slice none 0 0, .int .i64 0, .int .i64 0] 8 rfl (World.shaped_of_RefB (by kernel_rfl) (by kernel_rfl)) (by kernel_rfl) (by kernel_rfl) (by kernel_rfl) (door_met os _)) ?_
  intro W base args ds gs before hval0 hW _ _ hL _
  have hval : ∀ (j : Nat) t v, Tryd.f3.params[j]? = some t → args[j]? = some v → Value.okWide Tryd.prog W .any base t v := hval0
  have hW' := hW
  obtain ⟨p, q, hA0, hV0, rfl, hfz, hnd⟩ := hW
  have hA : DataW.TrodAll enc Tryd.prog W 0 (fun _ => true) true Tryd.f3.params.toList args.toList ds p := hA0
  have hV : DataW.TrodVars enc Tryd.prog W (fun _ => true) [vname] gs q := hV0
  rw [Tryd.params3] at hA hval
  obtain ⟨v0, vs0, d0, ds0, p0, q0, hargs, rfl, rfl, h0, r0⟩ := trodAll_cons hA
  obtain ⟨v1, vs1, d1, ds1, p1, q1, rfl, rfl, rfl, h1, r1⟩ := trodAll_cons r0
  obtain ⟨v2, vs2, d2, ds2, p2, q2, rfl, rfl, rfl, h2, r2⟩ := trodAll_cons r1
  obtain ⟨rfl, rfl, rfl⟩ := trodAll_nil r2
  obtain rfl : args = #[v0, v1, v2] := by cases args; simp_all
  obtain ⟨a0, len0, cap0, rfl⟩ := okWide_slice Tryd.underlying22 (hval 0 22 v0 rfl rfl)
  have k0 := h0
  have lt0 : ∀ x ∈ p0, x.block < W.heap.size := by obtain ⟨m, hm⟩ := k0; exact DataW.trod_lt m _ _ _ hm
  obtain ⟨x1, rfl, rfl, rfl, w1⟩ := open_int Tryd.underlying3 (hval 1 3 v1 rfl rfl) h1
  obtain ⟨x2, rfl, rfl, rfl, w2⟩ := open_int Tryd.underlying3 (hval 2 3 v2 rfl rfl) h2
  obtain ⟨hl0, Z, hZA, hZ⟩ := open_bytes k0
  obtain ⟨u, v, hv⟩ := of_laid hL
  obtain ⟨rfl, rfl⟩ := hV.unique (vars_read enc hv trivial _)
  have hc : W.cell? ⟨0, 0, none⟩ = some (.iface u v) := by simpa using World.var?_cell gErr hv 0
  have hW0 : 0 < W.heap.size := World.block_lt_of_cell? W _ hc
  clear hA0 hV0 hval0
  refine (walk W a0 len0 cap0 x1 x2 Z u v hl0 w1 w2 hZ hZA hc).mono fun e W' ⟨he, bel⟩ => ?_
  subst he
  exact ⟨_, rfl, _, _, _, [], _, [.cell 0 0], hW', trodAll_mk1 (shut_bool Tryd.underlying4 _), (trodAll_cons_mk (Below.trod laidOut (by kernel_rfl) (of_decide_eq_true (by kernel_rfl)) k0 bel lt0) (trodAll_cons_mk (shut_int Tryd.underlying3 w1) (trodAll_cons_mk (shut_int Tryd.underlying3 w2) trodAll_mk0))), vars_read enc (var?_below bel gErr hW0 hv) trivial _, bel.frame _, fun h => by cases h⟩

theorem over : Rows.FnPlaceTwoInARowStickyRefusalSaid :=
  OpenClaim.holds_of_wide 3 Tryd.f3 rfl rfl rfl rfl rfl rfl rfl ⟨rfl, rfl, rfl, rfl, rfl⟩ rfl rfl rfl rfl rfl (by kernel_rfl) Tryd.func3 (by kernel_rfl)
    (of_decide_eq_true (by kernel_rfl)) (by unfold Func.isWrapper; first | (rw [if_pos (by decide +kernel)]; kernel_rfl) | (rw [if_neg (by decide +kernel)]; exact ⟨rfl, rfl⟩))
    (fun os started H enc _ => lifted os started H enc)

theorem proved : Rows.FnPlaceTwoInARowStickyRefusalCardSaid :=
  Claim7.holds_tied_plain_at .later [] [.sentinel] true (true, "f4fa78b8bc09025931f7edb5e27cd2b121222f73cb13ed00ec02f057e4bcf86a") false
    over (fun _ h => by cases h) (by kernel_rfl) (fun _ h => by cases h) fnPlaceTwoInARowStickyRefusal_row_tie rfl ⟨rfl, rfl⟩ (by kernel_rfl) rfl
    (fun f fn hf hfn => by
      obtain rfl : f = 3 := Option.some.inj ((show Tryd.prog.funcNamed Rows.fnPlaceTwoInARowStickyRefusalRow.func = some 3 by kernel_rfl).symm.trans hf) |>.symm
      obtain rfl : fn = Tryd.f3 := (Option.some.inj (Tryd.func3.symm.trans hfn)).symm
      exact ⟨by kernel_rfl, fun j t ht => by
        rw [Tryd.params3] at ht
        have hm : t ∈ [22, 3, 3] := by simpa using Array.mem_of_getElem? ht
        have hall : ([22, 3, 3].all fun u => !Tryd.prog.wantsStandIn u) = true := by kernel_rfl
        exact (show Tryd.prog.wantsStandIn t = false by simpa using List.all_eq_true.1 hall t hm)⟩)
    (by kernel_rfl)
end fnPlaceTwoInARowStickyRefusal
end Go.Proofs.Qxb6615735aDoor
