import Derived.Test.Qxb6615735aCut
import Derived.Test.Qxb6615735aOpen
namespace Go.Proofs.Qxb6615735a.fnEachStampCutAnywhere
open Go.ChangeShapes Go.WideShapes Go.ChangeAt Go.RowKit
open Go.ChangeMaps (open_string shut_string)
set_option linter.unusedVariables false

theorem own : ownKnob Try.prog.godebug = none := by kernel_rfl
theorem laidOut : laidOutB Try.prog = true := by kernel_rfl

/-- The Go text returns true, and writes nothing that was there. -/
theorem walk (o i f : Int) (a3 a4 : Option Addr) (l3 c3 l4 c4 : Nat) (cut : Int) (w : World) (I : Nat → List Value) (S : Nat → Int) (h3 : l3 ≤ maxLen) (h4 : l4 ≤ maxLen) (hf : (Lit.int .u64 f).wf = true) (hc : (Lit.int .i64 cut).wf = true)
    (hA3 : ArrAt w a3 l3 32 I) (hI8 : ∀ i, i < l3 → Bytes8 (I i)) (hA4 : ArrAt w a4 l4 1 (fun i => [.int .u64 (S i)])) (hS0 : ∀ i, 0 ≤ S i) :
    Calls Try.prog 3 #[.int .u32 o, .int .u64 i, .int .u64 f, .slice a3 l3 c3, .slice a4 l4 c4, .int .i64 cut] w fun e w' => e = .returned (.bool true) ∧ Below w.heap.size w w' := by
  have hf' := bounds_u64 hf
  have hc' := bounds_i64 hc
  unfold maxLen at h3 h4
  by_cases hg : l3 ≤ 32768 ∧ l3 * 32 + l4 * 8 ≤ 1048576 ∧ l3 = l4 ∧ 0 ≤ cut ∧ cut ≤ l4
  · obtain ⟨g1, g2, rfl, g4, g5⟩ := hg
    obtain ⟨c, rfl⟩ := Int.eq_ofNat_of_zero_le g4
    exact walk3_good o i f a3 a4 l3 c3 c4 c w I S (by omega) (by omega) (by omega) (by omega) hS0 hA3 hA4 hI8
  · refine (walk3_bad o i f a3 a4 l3 c3 l4 c4 cut w (by omega) (by omega) ⟨by omega, by omega⟩ hg).mono ?_
    rintro e w' ⟨rfl, rfl⟩
    exact ⟨rfl, Below.refl _ _⟩

set_option maxRecDepth 100000 in
theorem lifted (os : Os) (started : os.Started) (H : Type) (enc : TypeId × Value → H) :
    ReturnsInHanded {} Try.checked os 3 .any (Rows.fnEachStampCutAnywhereSpec.pre6 enc Try.prog Try.f3 Rows.fnEachStampCutAnywhereRow.domain false) (Rows.fnEachStampCutAnywhereSpec.post enc Try.prog Try.f3 false true false false) := by
  refine returnsInHanded_of_change (C := Try.checked) own started (by kernel_rfl) Try.func3
    (ChangeSpec.witness6 (enc := enc) (C := Try.checked) false ⟨#[], #[.int .u32 0, .int .u64 0, .int .u64 0, .slice none 0 0, .slice none 0 0, .int .i64 0], []⟩ 8 (by kernel_rfl) (by kernel_rfl) (by kernel_rfl) (by kernel_rfl)) ?_
  intro W base args ds gs before hval0 hW hcnd _
  have hval : ∀ (j : Nat) t v, Try.f3.params[j]? = some t → args[j]? = some v → Value.okWide Try.prog W .any base t v := hval0
  have hW' := hW
  obtain ⟨p, q, hA0, hV, rfl, hfz, hnd⟩ := hW
  have hA : DataW.TrodAll enc Try.prog W 0 (fun _ => true) true Try.f3.params.toList args.toList ds p := hA0
  rw [Try.params3] at hA hval
  obtain ⟨v0, vs0, d0, ds0, p0, q0, hargs, rfl, rfl, h0, r0⟩ := trodAll_cons hA
  obtain ⟨v1, vs1, d1, ds1, p1, q1, rfl, rfl, rfl, h1, r1⟩ := trodAll_cons r0
  obtain ⟨v2, vs2, d2, ds2, p2, q2, rfl, rfl, rfl, h2, r2⟩ := trodAll_cons r1
  obtain ⟨v3, vs3, d3, ds3, p3, q3, rfl, rfl, rfl, h3, r3⟩ := trodAll_cons r2
  obtain ⟨v4, vs4, d4, ds4, p4, q4, rfl, rfl, rfl, h4, r4⟩ := trodAll_cons r3
  obtain ⟨v5, vs5, d5, ds5, p5, q5, rfl, rfl, rfl, h5, r5⟩ := trodAll_cons r4
  obtain ⟨rfl, rfl, rfl⟩ := trodAll_nil r5
  obtain rfl : args = #[v0, v1, v2, v3, v4, v5] := by cases args; simp_all
  obtain ⟨rfl, rfl⟩ := trodVars_none hV
  obtain ⟨x0, rfl, rfl, rfl, w0⟩ := open_int Try.underlying22 (hval 0 22 v0 rfl rfl) h0
  obtain ⟨x1, rfl, rfl, rfl, w1⟩ := open_int Try.underlying23 (hval 1 23 v1 rfl rfl) h1
  obtain ⟨x2, rfl, rfl, rfl, w2⟩ := open_int Try.underlying23 (hval 2 23 v2 rfl rfl) h2
  obtain ⟨a3, len3, cap3, rfl⟩ := okWide_slice Try.underlying24 (hval 3 24 v3 rfl rfl)
  have k3 := h3
  have lt3 : ∀ x ∈ p3, x.block < W.heap.size := by obtain ⟨m, hm⟩ := k3; exact DataW.trod_lt m _ _ _ hm
  obtain ⟨a4, len4, cap4, rfl⟩ := okWide_slice Try.underlying25 (hval 4 25 v4 rfl rfl)
  have k4 := h4
  have lt4 : ∀ x ∈ p4, x.block < W.heap.size := by obtain ⟨m, hm⟩ := k4; exact DataW.trod_lt m _ _ _ hm
  obtain ⟨x5, rfl, rfl, rfl, w5⟩ := open_int Try.underlying3 (hval 5 3 v5 rfl rfl) h5
  obtain ⟨hl3, I, hI, hI8⟩ := open_ids k3
  obtain ⟨hl4, S, hS, hS0⟩ := open_skips k4
  clear hA0 hval0
  refine (walk x0 x1 x2 a3 a4 len3 cap3 len4 cap4 x5 W I S hl3 hl4 w2 w5 hI hI8 hS hS0).mono fun e W' ⟨he, bel⟩ => ?_
  subst he
  exact ⟨_, rfl, _, _, _, [], _, [], hW', trodAll_mk1 (shut_bool Try.underlying4 _), (trodAll_cons_mk (shut_int Try.underlying22 w0) (trodAll_cons_mk (shut_int Try.underlying23 w1) (trodAll_cons_mk (shut_int Try.underlying23 w2) (trodAll_cons_mk (Below.trod laidOut (by kernel_rfl) (of_decide_eq_true (by kernel_rfl)) k3 bel lt3) (trodAll_cons_mk (Below.trod laidOut (by kernel_rfl) (of_decide_eq_true (by kernel_rfl)) k4 bel lt4) (trodAll_cons_mk (shut_int Try.underlying3 w5) trodAll_mk0)))))), rfl, bel.frame _, fun h => by cases h⟩

theorem over : Rows.fnEachStampCutAnywhereRow.holds Try.pinned (OpenSpec.ofChange Rows.fnEachStampCutAnywhereSpec) :=
  OpenClaim.holds_of_wide 3 Try.f3 rfl rfl rfl rfl rfl rfl rfl ⟨rfl, rfl, rfl, rfl, rfl⟩ rfl rfl rfl rfl rfl (by kernel_rfl) Try.func3 (by kernel_rfl)
    (of_decide_eq_true (by kernel_rfl)) (by unfold Func.isWrapper; first | (rw [if_pos (by decide +kernel)]; kernel_rfl) | (rw [if_neg (by decide +kernel)]; exact ⟨rfl, rfl⟩))
    (fun os started H enc _ => lifted os started H enc)

theorem proved : Rows.FnEachStampCutAnywhereSaid := over
end Go.Proofs.Qxb6615735a.fnEachStampCutAnywhere
