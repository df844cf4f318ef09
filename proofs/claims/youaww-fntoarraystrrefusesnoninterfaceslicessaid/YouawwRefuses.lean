/-
  'Rows.FnToArrayStrRefusesNonInterfaceSlicesSaid', proved.
-/
import Derived.Test.YouawwLawB
import Derived.Test.YouawwOpen
namespace Go.Proofs.Youaww
open Go.ChangeShapes Go.WideShapes Go.ChangeAt Go.RowKit
open Go.ChangeMaps (open_string shut_string)

set_option maxRecDepth 100000 in
theorem refuses_lifted (os : Os) (started : os.Started) (H : Type) (enc : TypeId × Value → H) :
    ReturnsInHanded {} Uawg.checked os 4 .any (Rows.fnToArrayStrRefusesNonInterfaceSlicesSpec.pre6 enc Uawg.prog Uawg.f4 Rows.fnToArrayStrRefusesNonInterfaceSlicesRow.domain false)
      (Rows.fnToArrayStrRefusesNonInterfaceSlicesSpec.post enc Uawg.prog Uawg.f4 false true false false) := by
  refine returnsInHanded_of_change (C := Uawg.checked) own started (by kernel_rfl) Uawg.func4
    (ChangeSpec.witness6 (enc := enc) (C := Uawg.checked) false ⟨#[], #[.slice none 0 0, .string ByteArray.empty, .float .f64 0], []⟩ 8 (by kernel_rfl) (by kernel_rfl) (by kernel_rfl) (by kernel_rfl)) ?_
  intro W base args ds gs before hval0 hW hcnd _
  have hval : ∀ (j : Nat) t v, Uawg.f4.params[j]? = some t → args[j]? = some v → Value.okWide Uawg.prog W .any base t v := hval0
  have hW' := hW
  obtain ⟨p, q, hA0, hV, rfl, hfz, hnd⟩ := hW
  have hA : DataW.TrodAll enc Uawg.prog W 0 (fun _ => true) true Uawg.f4.params.toList args.toList ds p := hA0
  rw [Uawg.params4] at hA hval
  obtain ⟨v0, vs0, d0, ds0, p0, q0, hargs, rfl, rfl, h0, r0⟩ := trodAll_cons hA
  obtain ⟨v1, vs1, d1, ds1, p1, q1, rfl, rfl, rfl, h1, r1⟩ := trodAll_cons r0
  obtain ⟨v2, vs2, d2, ds2, p2, q2, rfl, rfl, rfl, h2, r2⟩ := trodAll_cons r1
  obtain ⟨rfl, rfl, rfl⟩ := trodAll_nil r2
  obtain rfl : args = #[v0, v1, v2] := by cases args; simp_all
  obtain ⟨rfl, rfl⟩ := trodVars_none hV
  obtain ⟨a0, len0, cap0, rfl⟩ := okWide_slice Uawg.underlying22 (hval 0 22 v0 rfl rfl)
  have k0 := h0
  have lt0 : ∀ x ∈ p0, x.block < W.heap.size := by obtain ⟨m, hm⟩ := k0; exact DataW.trod_lt m _ _ _ hm
  obtain ⟨f0, hn0, L0⟩ := leads_strs h0
  obtain ⟨s1, rfl, rfl, rfl, hs1⟩ := open_string Uawg.underlying9 (hval 1 9 v1 rfl rfl) h1
  obtain ⟨x2, rfl, rfl, rfl, w2⟩ := open_float Uawg.underlying30 (hval 2 30 v2 rfl rfl) h2
  clear hA0 hval0
  refine (lawB_walk a0 len0 cap0 f0 hn0 s1 _ W L0).mono fun e W' ⟨he, bel⟩ => ?_
  subst he
  exact ⟨_, rfl, _, _, _, [], _, [], hW', trodAll_mk1 (shut_bool Uawg.underlying4 _), (trodAll_mk3 (Below.trod laidOut (by kernel_rfl) (of_decide_eq_true (by kernel_rfl)) k0 bel lt0) (shut_string Uawg.underlying9 hs1) (shut_float Uawg.underlying30 w2)), rfl, bel.frame _, fun h => by cases h⟩

theorem refuses_holds : Rows.FnToArrayStrRefusesNonInterfaceSlicesSaid :=
  OpenClaim.holds_of_wide 4 Uawg.f4 rfl rfl rfl rfl rfl rfl rfl ⟨rfl, rfl, rfl, rfl, rfl⟩ rfl rfl rfl rfl rfl (by kernel_rfl) Uawg.func4 (by kernel_rfl)
    (of_decide_eq_true (by kernel_rfl)) (by unfold Func.isWrapper; first | (rw [if_pos (by decide +kernel)]; kernel_rfl) | (rw [if_neg (by decide +kernel)]; exact ⟨rfl, rfl⟩))
    (fun os started H enc _ => refuses_lifted os started H enc)

end Go.Proofs.Youaww
