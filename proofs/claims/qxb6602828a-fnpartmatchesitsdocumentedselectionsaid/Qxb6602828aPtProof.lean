import Derived.Test.Qxb6602828aOpen3
import Derived.Test.Qxb6602828aPt9
namespace Go.Proofs.Qxb6602828a
open Go.ChangeShapes Go.WideShapes Go.ChangeAt Go.RowKit Go.Lx

set_option maxRecDepth 100000 in
theorem ptLifted (os : Os) (started : os.Started) (H : Type) (enc : TypeId × Value → H) :
    ReturnsInHanded {} Try.checked os 7 .any (Rows.fnPartMatchesItsDocumentedSelectionSpec.pre6 enc Try.prog Try.f7 Rows.fnPartMatchesItsDocumentedSelectionRow.domain false) (Rows.fnPartMatchesItsDocumentedSelectionSpec.post enc Try.prog Try.f7 false true false false) := by
  refine returnsInHanded_of_change (C := Try.checked) own started (by kernel_rfl) Try.func7
    (ChangeSpec.witness6 (enc := enc) (C := Try.checked) false ⟨#[], #[.slice none 0 0, .slice none 0 0, .slice none 0 0], []⟩ 8 (by kernel_rfl) (by kernel_rfl) (by kernel_rfl) (by kernel_rfl)) ?_
  intro W base args ds gs before hval0 hW hcnd _
  have hval : ∀ (j : Nat) t v, Try.f7.params[j]? = some t → args[j]? = some v → Value.okWide Try.prog W .any base t v := hval0
  have hW' := hW
  obtain ⟨p, q, hA0, hV, rfl, hfz, hnd⟩ := hW
  have hA : DataW.TrodAll enc Try.prog W 0 (fun _ => true) true Try.f7.params.toList args.toList ds p := hA0
  rw [Try.params7] at hA hval
  obtain ⟨v0, vs0, d0, ds0, p0, q0, hargs, rfl, rfl, h0, r0⟩ := trodAll_cons hA
  obtain ⟨v1, vs1, d1, ds1, p1, q1, rfl, rfl, rfl, h1, r1⟩ := trodAll_cons r0
  obtain ⟨v2, vs2, d2, ds2, p2, q2, rfl, rfl, rfl, h2, r2⟩ := trodAll_cons r1
  obtain ⟨rfl, rfl, rfl⟩ := trodAll_nil r2
  obtain rfl : args = #[v0, v1, v2] := by cases args; simp_all
  obtain ⟨rfl, rfl⟩ := trodVars_none hV
  have k0 := h0
  have lt0 : ∀ x ∈ p0, x.block < W.heap.size := by obtain ⟨m, hm⟩ := k0; exact DataW.trod_lt m _ _ _ hm
  have k1 := h1
  have lt1 : ∀ x ∈ p1, x.block < W.heap.size := by obtain ⟨m, hm⟩ := k1; exact DataW.trod_lt m _ _ _ hm
  have k2 := h2
  have lt2 : ∀ x ∈ p2, x.block < W.heap.size := by obtain ⟨m, hm⟩ := k2; exact DataW.trod_lt m _ _ _ hm
  obtain ⟨a0, len0, cap0, rfl⟩ := okWide_slice Try.underlying53 (hval 0 53 v0 rfl rfl)
  obtain ⟨f0, hf0⟩ := h0
  obtain ⟨es, e0, l0, hb0⟩ := open_ents (by simpa [Value.cells] using hf0)
  obtain ⟨a1, len1, cap1, rfl⟩ := okWide_slice Try.underlying54 (hval 1 54 v1 rfl rfl)
  obtain ⟨f1, hf1⟩ := h1
  obtain ⟨fs, e1, l1⟩ := open_flags (by simpa [Value.cells] using hf1)
  obtain ⟨a2, len2, cap2, rfl⟩ := okWide_slice Try.underlying54 (hval 2 54 v2 rfl rfl)
  obtain ⟨f2, hf2⟩ := h2
  obtain ⟨gs, e2, l2⟩ := open_flags (by simpa [Value.cells] using hf2)
  clear hA0 hval0
  refine (pt_c W _ _ _ es fs gs e0 e1 e2 l0 l1 l2 hb0).mono fun e W' ⟨he, bel⟩ => ?_
  subst he
  exact ⟨_, rfl, _, _, _, [], _, [], hW', trodAll_mk1 (shut_bool Try.underlying4 _), (trodAll_cons_mk (Below.trod laidOut (by kernel_rfl) (of_decide_eq_true (by kernel_rfl)) k0 bel lt0) (trodAll_cons_mk (Below.trod laidOut (by kernel_rfl) (of_decide_eq_true (by kernel_rfl)) k1 bel lt1) (trodAll_cons_mk (Below.trod laidOut (by kernel_rfl) (of_decide_eq_true (by kernel_rfl)) k2 bel lt2) trodAll_mk0))), rfl, Below.frame bel _, fun h => by cases h⟩

theorem ptProved : Rows.FnPartMatchesItsDocumentedSelectionSaid :=
  OpenClaim.holds_of_wide 7 Try.f7 rfl rfl rfl rfl rfl rfl rfl ⟨rfl, rfl, rfl, rfl, rfl⟩ rfl rfl rfl rfl rfl (by kernel_rfl) Try.func7 (by kernel_rfl)
    (of_decide_eq_true (by kernel_rfl)) (by unfold Func.isWrapper; first | (rw [if_pos (by decide +kernel)]; kernel_rfl) | (rw [if_neg (by decide +kernel)]; exact ⟨rfl, rfl⟩))
    (fun os started H enc _ => ptLifted os started H enc)
end Go.Proofs.Qxb6602828a
