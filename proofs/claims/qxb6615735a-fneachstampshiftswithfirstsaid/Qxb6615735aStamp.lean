import Derived.Test.Qxb6615735aEach
namespace Go.Proofs.Qxb6615735a
open Go.RowKit
set_option linter.unusedSimpArgs false
set_option linter.unusedVariables false

theorem get_flat (F : Nat × Int → List Value) (sz : Nat) : ∀ (l : List (Nat × Int)), (∀ p ∈ l, (F p).length = sz) → ∀ j i, j < l.length → i < sz → (l.flatMap F)[j * sz + i]? = (F (l.getD j (0, 0)))[i]?
  | [], _, j, _, hj, _ => by simp at hj
  | p :: l, h, 0, i, hj, hi => by
    have := h p (by simp)
    rw [List.flatMap_cons, List.getElem?_append_left (by omega)]
    simp
  | p :: l, h, j + 1, i, hj, hi => by
    have h0 := h p (by simp)
    rw [List.flatMap_cons, List.getElem?_append_right (by rw [h0, Nat.add_mul]; omega), h0, show (j + 1) * sz + i - sz = j * sz + i by rw [Nat.add_mul]; omega]
    rw [get_flat F sz l (fun q hq => h q (by simp [hq])) j i (by simpa using hj) hi]
    simp

/-- Elements of 'size' cells out of a row that is owned. -/
theorem arr_of_own {w : World} {base e size n : Nat} {v : Value} {l : List (Nat × Int)} (F : Nat × Int → List Value) (hF : ∀ p ∈ l, (F p).length = size) (hn : l.length = n)
    (h : w.ownsRow base e size v n (l.flatMap F)) : ∃ a c, v = .slice a n c ∧ ArrAt w a n size (fun j => F (l.getD j (0, 0))) := by
  rcases h.2 with ⟨rfl, h0⟩ | ⟨g, cap, cur, rfl, hg, hh, _⟩
  · subst h0
    exact ⟨none, 0, rfl, fun h => absurd h (by omega)⟩
  · refine ⟨_, _, rfl, fun _ => ⟨g, 0, rfl, fun j hj => ?_⟩⟩
    have hm : l.getD j (0, 0) ∈ l := by
      rw [List.getD, List.getElem?_eq_getElem (by omega)]
      exact List.getElem_mem _
    refine ⟨hF _ hm, fun i u hu => ?_⟩
    have hi : i < size := by
      have := (List.getElem?_eq_some_iff.1 hu).1
      rw [hF _ hm] at this
      exact this
    have := h.cells (g := g) rfl (j * size + i) u (by rw [get_flat F size l hF j i (by omega) hi]; exact hu)
    rw [Addr.add_mid] at this
    simpa [Nat.add_assoc] using this

theorem st_flat : ∀ (l : List (Nat × Int)), l.flatMap (fun p => [Value.int .u64 p.2]) = stCells l
  | [] => rfl
  | p :: l => by rw [List.flatMap_cons, st_flat l]; rfl

theorem arr_drewN {w : World} {a : Option Addr} {n sz : Nat} {I : Nat → List Value} (h : ArrAt w a n sz I) (q : Nat) : ArrAt (w.drewN q) a n sz I := fun hn => by
  obtain ⟨b, o, ha, hr⟩ := h hn
  exact ⟨b, o, ha, fun i hi => ⟨(hr i hi).1, fun j v hv => by simpa using (hr i hi).2 j v hv⟩⟩

/-- What ZZeachStamp hands back. -/
def StampsPost (l : List (Nat × Int)) (I : Nat → List Value) (w : World) (e : Ending) (w' : World) : Prop :=
  ∃ aI cI aS cS, e = .returned (.tuple #[.slice aI l.length cI, .slice aS l.length cS]) ∧ ArrAt w' aI l.length 32 (fun j => I (l.getD j (0, 0)).1) ∧ ArrAt w' aS l.length 1 (fun j => [.int .u64 (l.getD j (0, 0)).2]) ∧ Below w.heap.size w w'

theorem callsTo_mem (first : Int) (S : Nat → Int) : ∀ m p, p ∈ callsTo first S m → p.1 < m
  | 0, p, h => by simp [callsTo] at h
  | m + 1, p, h => by
    unfold callsTo at h
    split at h
    · have := callsTo_mem first S m p h; omega
    · simp only [List.mem_append, List.mem_singleton] at h
      rcases h with h | rfl
      · have := callsTo_mem first S m p h; omega
      · simp

theorem arr_below {B : Nat} {w w' : World} (hB : w.heap.size = B) (h : Below B w w') {a : Option Addr} {n sz : Nat} {I : Nat → List Value} (hs : 0 < sz) (hA : ArrAt w a n sz I) : ArrAt w' a n sz I := fun hn => by
  obtain ⟨b, o, ha, hr⟩ := hA hn
  refine ⟨b, o, ha, fun i hi => ⟨(hr i hi).1, range_below h ?_ (hr i hi).2⟩⟩
  rw [← hB]
  exact range_lt (hr i hi).2 (by rw [(hr i hi).1]; exact hs)

set_option maxHeartbeats 1000000 in
theorem stamp6 (w : World) (sb m c : Nat) (a : Option Addr) (first : Int) (I : Nat → List Value) (S : Nat → Int) (hsb : sb < w.heap.size)
    (hs2 : w.cell? ⟨sb, 2, none⟩ = some (.int .u64 first)) (hs3 : w.cell? ⟨sb, 3, none⟩ = some (.slice a m c)) (hm : m ≤ 32768) (hA : ArrAt w a m 33 (itemCells I S)) (hI : ∀ i, i < m → (I i).length = 32 ∧ ∀ v ∈ I i, v.oneCell' = true) :
    Calls Try.prog 6 #[.pointer (some ⟨sb, 0, none⟩)] w fun e w' => StampsPost (callsTo first S m) I w e w' := by
  have hmf : ∀ (fn : Fn) (first cap : Array Value) (w : World), (Instr.makeFunc fn first cap).run Try.prog w = .ok (.func fn first cap) w := fun _ _ _ _ => rfl
  go_enter Try.func6, Try.ntmps6
  go_wp2_with (first
    | (go_at_call 10; go_must (refine (each10 w _ sb m c w.heap.size a first I S rfl hsb ?b1 ?b2 hs2 hs3 hm hA hI ?b3 ?b4 ?b5 ?b6).mono ?_)))
  case b1 => exact ((Below.refl _ _).alloc (Nat.le_refl _) _).alloc (by simp) _
  case b2 => simp
  case b3 => simp [World.cell?_alloc_past]
  case b4 => simp
  case b5 => simp
  case b6 => simp
  rintro e w1 ⟨rfl, vI, vS, hcI, hcS, hoI, hoS, hb⟩
  obtain ⟨aI, cI, hvI, hAI⟩ := arr_of_own (fun p => I p.1) (fun p hp => (hI _ (callsTo_mem _ _ _ p hp)).1) rfl hoI
  obtain ⟨aS, cS, hvS, hAS⟩ := arr_of_own (fun p => [.int .u64 p.2]) (fun p hp => rfl) rfl (by rw [st_flat]; exact hoS)
  rw [hvI] at hcI
  rw [hvS] at hcS
  clear hoI hoS hvI hvS
  go_wp2
  go_quiet (fail)
  go_wp2
  go_ret2
  exact ⟨aI, cI, aS, cS, rfl, arr_drewN hAI nq, arr_drewN hAS nq, below_drewN hb nq⟩
end Go.Proofs.Qxb6615735a
