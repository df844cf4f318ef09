/-
  'Rows.FnToArrayStrMixedExactSaid', proved.
-/
import Derived.Test.YouawwLawA
import Derived.Test.YouawwOpen
import Derived.Deep.Slices
namespace Go.Proofs.Youaww
open Go.ChangeShapes Go.WideShapes Go.ChangeAt Go.RowKit

theorem cells4 : Uawg.prog.cellsOf 4 = 1 := by kernel_rfl

/-- A slice of bools that came in, as the walks are told of it. -/
theorem leads_bools {H : Type} {enc : TypeId × Value → H} {W : World} {a : Option Addr} {n c : Nat} {d : DataW H} {ps : List MemPlace}
    (h : DataW.Trod enc Uawg.prog W 0 (fun _ => true) true 23 (.slice a n c) d ps) : ∃ g : Nat → Bool, Leads W a n (fun i => .bool (g i)) := by
  obtain ⟨fuel, hf⟩ := h
  rcases Deep.open_slice1 Uawg.underlying23 cells4 hf with ⟨hcs, _⟩ | ⟨x, l, c', m, fu, V, D, Pl, hcs, _, hl, hm, hmm, _, hx⟩
  · simp [Value.cells] at hcs
    obtain ⟨rfl, rfl, rfl⟩ := hcs
    exact ⟨fun _ => false, .inl rfl⟩
  · simp [Value.cells] at hcs
    obtain ⟨rfl, rfl, rfl⟩ := hcs
    simp only [if_true] at hmm
    obtain ⟨g, hg⟩ := Deep.choose_lt (α := Bool) (n := m) (p := fun i b => V i = .bool b) (fun i hi => by
      obtain ⟨b, h1, _⟩ := DataW.trod_bool Uawg.underlying4 (hx i hi).2
      exact ⟨b, by simpa using h1⟩)
    refine ⟨g, ?_⟩
    have hcell : ∀ i, i < n → W.cell? (x.add i) = some (.bool (g i)) := fun i hi => by rw [(hx i (by omega)).1, hg i (by omega)]
    by_cases h0 : n = 0
    · exact .inl h0
    · right
      obtain ⟨b, off, spot⟩ := x
      have hspot : spot = none := by simpa [Addr.add] using World.cell?_spot (hcell 0 (by omega))
      subst hspot
      exact ⟨b, off, rfl, fun i hi => by rw [← add_plain]; exact hcell i hi⟩

set_option maxRecDepth 100000 in
theorem exact_lifted (os : Os) (started : os.Started) (H : Type) (enc : TypeId × Value → H) :
    ReturnsInHanded {} Uawg.checked os 3 .any (Rows.fnToArrayStrMixedExactSpec.pre6 enc Uawg.prog Uawg.f3 Rows.fnToArrayStrMixedExactRow.domain false)
      (Rows.fnToArrayStrMixedExactSpec.post enc Uawg.prog Uawg.f3 false true false false) := by
  refine returnsInHanded_of_change (C := Uawg.checked) own started (by kernel_rfl) Uawg.func3
    (ChangeSpec.witness6 (enc := enc) (C := Uawg.checked) false ⟨#[], #[.slice none 0 0, .slice none 0 0], []⟩ 8 (by kernel_rfl) (by kernel_rfl) (by kernel_rfl) (by kernel_rfl)) ?_
  intro W base args ds gs before hval0 hW hcnd _
  have hval : ∀ (j : Nat) t v, Uawg.f3.params[j]? = some t → args[j]? = some v → Value.okWide Uawg.prog W .any base t v := hval0
  have hW' := hW
  obtain ⟨p, q, hA0, hV, rfl, hfz, hnd⟩ := hW
  have hA : DataW.TrodAll enc Uawg.prog W 0 (fun _ => true) true Uawg.f3.params.toList args.toList ds p := hA0
  rw [Uawg.params3] at hA hval
  obtain ⟨v0, v1, d0, d1, p0, p1, rfl, rfl, rfl, h0, h1⟩ := trodAll_two hA
  obtain ⟨rfl, rfl⟩ := trodVars_none hV
  obtain ⟨a0, len0, cap0, rfl⟩ := okWide_slice Uawg.underlying22 (hval 0 22 v0 rfl rfl)
  obtain ⟨a1, len1, cap1, rfl⟩ := okWide_slice Uawg.underlying23 (hval 1 23 v1 rfl rfl)
  have k0 := h0
  have k1 := h1
  have lt0 : ∀ x ∈ p0, x.block < W.heap.size := by obtain ⟨m, hm⟩ := k0; exact DataW.trod_lt m _ _ _ hm
  have lt1 : ∀ x ∈ p1, x.block < W.heap.size := by obtain ⟨m, hm⟩ := k1; exact DataW.trod_lt m _ _ _ hm
  obtain ⟨f0, hn0, L0⟩ := leads_strs h0
  obtain ⟨f1, L1⟩ := leads_bools h1
  clear hA0 hval0
  refine (lawA_walk a0 a1 len0 cap0 len1 cap1 f0 f1 hn0 W L0 L1).mono fun e W' ⟨he, bel⟩ => ?_
  subst he
  exact ⟨_, rfl, _, _, _, [], _, [], hW', trodAll_mk1 (shut_bool Uawg.underlying4 _), (trodAll_mk2 (Below.trod laidOut (by kernel_rfl) (of_decide_eq_true (by kernel_rfl)) k0 bel lt0) (Below.trod laidOut (by kernel_rfl) (of_decide_eq_true (by kernel_rfl)) k1 bel lt1)), rfl, bel.frame _, fun h => by cases h⟩

theorem exact_holds : Rows.FnToArrayStrMixedExactSaid :=
  OpenClaim.holds_of_wide 3 Uawg.f3 rfl rfl rfl rfl rfl rfl rfl ⟨rfl, rfl, rfl, rfl, rfl⟩ rfl rfl rfl rfl rfl (by kernel_rfl) Uawg.func3 (by kernel_rfl)
    (of_decide_eq_true (by kernel_rfl)) (by unfold Func.isWrapper; first | (rw [if_pos (by decide +kernel)]; kernel_rfl) | (rw [if_neg (by decide +kernel)]; exact ⟨rfl, rfl⟩))
    (fun os started H enc _ => exact_lifted os started H enc)

end Go.Proofs.Youaww
