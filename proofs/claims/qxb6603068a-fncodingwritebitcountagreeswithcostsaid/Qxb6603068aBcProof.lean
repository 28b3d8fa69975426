import Derived.Test.Qxb6603068aO3
import Derived.Test.Qxb6603068aT8
namespace Go.Proofs.Qxb6603068a
open Go.ChangeShapes Go.WideShapes Go.ChangeAt Go.RowKit Go.Lx

set_option maxRecDepth 100000 in
theorem bcoLifted (o_s : Os) (started : o_s.Started) (H : Type) (enc : TypeId × Value → H) :
    ReturnsInHanded {} Try.checked o_s 4 .any (Rows.fnCodingWriteBitCountAgreesWithCostSpec.pre6 enc Try.prog Try.f4 Rows.fnCodingWriteBitCountAgreesWithCostRow.domain false) (Rows.fnCodingWriteBitCountAgreesWithCostSpec.post enc Try.prog Try.f4 false true false false) := by
  refine returnsInHanded_of_change (C := Try.checked) own started (by kernel_rfl) Try.func4
    (ChangeSpec.witness6 (enc := enc) (C := Try.checked) false ⟨#[], #[.slice none 0 0, .slice none 0 0, .int .i64 0, .slice none 0 0, .int .u64 0, .int .u64 0, .slice none 0 0, .int .i64 0], []⟩ 8 (by kernel_rfl) (by kernel_rfl) (by kernel_rfl) (by kernel_rfl)) ?_
  intro W base args ds gs before hval0 hW hcnd _
  have hval : ∀ (j : Nat) t v, Try.f4.params[j]? = some t → args[j]? = some v → Value.okWide Try.prog W .any base t v := hval0
  have hW' := hW
  obtain ⟨p, q, hA0, hV, rfl, hfz, hnd⟩ := hW
  have hA : DataW.TrodAll enc Try.prog W 0 (fun _ => true) true Try.f4.params.toList args.toList ds p := hA0
  rw [Try.params4] at hA hval
  obtain ⟨v0, vs0, d0, ds0, p0, q0, hargs, rfl, rfl, h0, r0⟩ := trodAll_cons hA
  obtain ⟨v1, vs1, d1, ds1, p1, q1, rfl, rfl, rfl, h1, r1⟩ := trodAll_cons r0
  obtain ⟨v2, vs2, d2, ds2, p2, q2, rfl, rfl, rfl, h2, r2⟩ := trodAll_cons r1
  obtain ⟨v3, vs3, d3, ds3, p3, q3, rfl, rfl, rfl, h3, r3⟩ := trodAll_cons r2
  obtain ⟨v4, vs4, d4, ds4, p4, q4, rfl, rfl, rfl, h4, r4⟩ := trodAll_cons r3
  obtain ⟨v5, vs5, d5, ds5, p5, q5, rfl, rfl, rfl, h5, r5⟩ := trodAll_cons r4
  obtain ⟨v6, vs6, d6, ds6, p6, q6, rfl, rfl, rfl, h6, r6⟩ := trodAll_cons r5
  obtain ⟨v7, vs7, d7, ds7, p7, q7, rfl, rfl, rfl, h7, r7⟩ := trodAll_cons r6
  obtain ⟨rfl, rfl, rfl⟩ := trodAll_nil r7
  obtain rfl : args = #[v0, v1, v2, v3, v4, v5, v6, v7] := by cases args; simp_all
  obtain ⟨rfl, rfl⟩ := trodVars_none hV
  have k0 := h0
  have lt0 : ∀ x ∈ p0, x.block < W.heap.size := by obtain ⟨m, hm⟩ := k0; exact DataW.trod_lt m _ _ _ hm
  have k1 := h1
  have lt1 : ∀ x ∈ p1, x.block < W.heap.size := by obtain ⟨m, hm⟩ := k1; exact DataW.trod_lt m _ _ _ hm
  have k2 := h2
  have lt2 : ∀ x ∈ p2, x.block < W.heap.size := by obtain ⟨m, hm⟩ := k2; exact DataW.trod_lt m _ _ _ hm
  have k3 := h3
  have lt3 : ∀ x ∈ p3, x.block < W.heap.size := by obtain ⟨m, hm⟩ := k3; exact DataW.trod_lt m _ _ _ hm
  have k4 := h4
  have lt4 : ∀ x ∈ p4, x.block < W.heap.size := by obtain ⟨m, hm⟩ := k4; exact DataW.trod_lt m _ _ _ hm
  have k5 := h5
  have lt5 : ∀ x ∈ p5, x.block < W.heap.size := by obtain ⟨m, hm⟩ := k5; exact DataW.trod_lt m _ _ _ hm
  have k6 := h6
  have lt6 : ∀ x ∈ p6, x.block < W.heap.size := by obtain ⟨m, hm⟩ := k6; exact DataW.trod_lt m _ _ _ hm
  have k7 := h7
  have lt7 : ∀ x ∈ p7, x.block < W.heap.size := by obtain ⟨m, hm⟩ := k7; exact DataW.trod_lt m _ _ _ hm
  obtain ⟨a0, len0, cap0, rfl⟩ := okWide_slice Try.underlying22 (hval 0 22 v0 rfl rfl)
  obtain ⟨f0, hf0⟩ := h0
  obtain ⟨f, e0, l0, b0⟩ := open_lens (by simpa [Value.cells] using hf0)
  obtain ⟨a1, len1, cap1, rfl⟩ := okWide_slice Try.underlying23 (hval 1 23 v1 rfl rfl)
  obtain ⟨f1, hf1⟩ := h1
  obtain ⟨xs1, e1, l1, b1⟩ := open_ints Try.underlying23 Try.underlying5 (by kernel_rfl) (by simpa [Value.cells] using hf1)
  obtain ⟨ch, rfl⟩ := nat_of (fun x hx => (wf_u8 (b1 x hx)).1)
  rw [natL_len] at l1
  obtain ⟨bits, rfl⟩ := okWide_int Try.underlying3 (hval 2 3 v2 rfl rfl)
  obtain ⟨a3, len3, cap3, rfl⟩ := okWide_slice Try.underlying23 (hval 3 23 v3 rfl rfl)
  obtain ⟨f3, hf3⟩ := h3
  obtain ⟨os, e3, l3, b3⟩ := open_ints Try.underlying23 Try.underlying5 (by kernel_rfl) (by simpa [Value.cells] using hf3)
  obtain ⟨z4, rfl⟩ := okWide_int Try.underlying24 (hval 4 24 v4 rfl rfl)
  obtain ⟨f4, hf4⟩ := h4
  obtain ⟨y4, e4, _, w4⟩ := DataW.trod_int Try.underlying24 (by simpa [Value.cells] using hf4)
  simp only [List.cons.injEq, Value.int.injEq, true_and, and_true] at e4
  subst e4
  have u4 := wf_u64 w4
  obtain ⟨acc, rfl⟩ : ∃ a : Nat, z4 = (a : Int) := ⟨z4.toNat, by omega⟩
  obtain ⟨z5, rfl⟩ := okWide_int Try.underlying25 (hval 5 25 v5 rfl rfl)
  obtain ⟨f5, hf5⟩ := h5
  obtain ⟨y5, e5, _, w5⟩ := DataW.trod_int Try.underlying25 (by simpa [Value.cells] using hf5)
  simp only [List.cons.injEq, Value.int.injEq, true_and, and_true] at e5
  subst e5
  have u5 := wf_u64 w5
  obtain ⟨n, rfl⟩ : ∃ a : Nat, z5 = (a : Int) := ⟨z5.toNat, by omega⟩
  obtain ⟨a6, len6, cap6, rfl⟩ := okWide_slice Try.underlying26 (hval 6 26 v6 rfl rfl)
  obtain ⟨f6, hf6⟩ := h6
  obtain ⟨xs6, e6, l6, b6⟩ := open_ints Try.underlying26 Try.underlying42 (by kernel_rfl) (by simpa [Value.cells] using hf6)
  obtain ⟨ys, rfl⟩ := nat_of (fun x hx => (wf_u16 (b6 x hx)).1)
  rw [natL_len] at l6
  obtain ⟨al, rfl⟩ := okWide_int Try.underlying3 (hval 7 3 v7 rfl rfl)
  clear hA0 hval0
  refine (bc_c W _ _ _ _ len0 f ch ys os bits al acc n e0 l0 b0 e1 l1 (fun x hx => by have := (wf_u8 (b1 _ (nat_mem hx))).2; omega) e3 l3 e6 l6 (fun x hx => by have := (wf_u16 (b6 _ (nat_mem hx))).2; omega) (by omega)).mono fun e W' ⟨he, bel⟩ => ?_
  subst he
  exact ⟨_, rfl, _, _, _, [], _, [], hW', trodAll_mk1 (shut_bool Try.underlying4 _), (trodAll_cons_mk (Below.trod laidOut (by kernel_rfl) (of_decide_eq_true (by kernel_rfl)) k0 bel lt0) (trodAll_cons_mk (Below.trod laidOut (by kernel_rfl) (of_decide_eq_true (by kernel_rfl)) k1 bel lt1) (trodAll_cons_mk (Below.trod laidOut (by kernel_rfl) (of_decide_eq_true (by kernel_rfl)) k2 bel lt2) (trodAll_cons_mk (Below.trod laidOut (by kernel_rfl) (of_decide_eq_true (by kernel_rfl)) k3 bel lt3) (trodAll_cons_mk (Below.trod laidOut (by kernel_rfl) (of_decide_eq_true (by kernel_rfl)) k4 bel lt4) (trodAll_cons_mk (Below.trod laidOut (by kernel_rfl) (of_decide_eq_true (by kernel_rfl)) k5 bel lt5) (trodAll_cons_mk (Below.trod laidOut (by kernel_rfl) (of_decide_eq_true (by kernel_rfl)) k6 bel lt6) (trodAll_cons_mk (Below.trod laidOut (by kernel_rfl) (of_decide_eq_true (by kernel_rfl)) k7 bel lt7) trodAll_mk0)))))))), rfl, Below.frame bel _, fun h => by cases h⟩

theorem bcProved : Rows.FnCodingWriteBitCountAgreesWithCostSaid :=
  OpenClaim.holds_of_wide 4 Try.f4 rfl rfl rfl rfl rfl rfl rfl ⟨rfl, rfl, rfl, rfl, rfl⟩ rfl rfl rfl rfl rfl (by kernel_rfl) Try.func4 (by kernel_rfl)
    (of_decide_eq_true (by kernel_rfl)) (by unfold Func.isWrapper; first | (rw [if_pos (by decide +kernel)]; kernel_rfl) | (rw [if_neg (by decide +kernel)]; exact ⟨rfl, rfl⟩))
    (fun os started H enc _ => bcoLifted os started H enc)
end Go.Proofs.Qxb6603068a
