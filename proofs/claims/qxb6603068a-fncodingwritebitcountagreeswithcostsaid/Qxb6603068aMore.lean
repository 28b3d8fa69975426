/-
  More of the logic: a region that draws whose tail is forced; loops over more things. Over any program.
-/
import Derived.Test.Qxb6603068aLogic
import Derived.StillTail
namespace Go.Lx
open Go.RowKit (Below)

section
variable {P : Program} {Q : Exit → Act → World → Prop} {n : Nat} {env : Env} {w : World} {l : List Oper}

theorem wpStill_plan {ops : Array Oper} {K : Act → Prop} {w : World} : ∀ (r : List Oper) (a : Act), wpPlan P ops (NP fun _ a' w' => w' = w → K a') (fun w' => w' = w) (r.map (·, true)) a w → wpStill P ops w K r a
  | [], a, h => (h : w = w → K a) rfl
  | o :: r, a, h => by
    simp only [List.map_cons, wpPlan] at h
    obtain ⟨v, hy, hk⟩ := h
    have ih := wpStill_plan r _ hk
    unfold wpStill
    rcases hy with ⟨hw, hv⟩ | ⟨hw, rfl⟩
    · rw [if_pos hw]
      simp only [Oper.still, hv w rfl, Oper.stillUpon]
      exact ⟨trivial, ih⟩
    · rw [if_neg (by simp [hw])]
      exact ih

/-- What stands behind the quiet head: the tail, in its order. -/
def Tail (P : Program) (ops : Array Oper) (Q : Exit → Act → World → Prop) (r : List Oper) (w0 : World) : Exit → Act → World → Prop := fun _ a w => w = w0 → wpList P ops (NP Q) r a w0

/-- A region that draws: the first m operations are quiet, the others come behind them in their order. -/
theorem W.region_t {id : Nat} (m : Nat) (hm : P.follows .mixedOrders = true) (hB : Region.lexTailB .any l.toArray m = true)
    (h : WL P l.toArray (Tail P l.toArray Q (l.drop m) w.drew) (fun w' => w' = w.drew) ((l.take m).map (·, true)) n env w.drew) : W P (.region id l.toArray true) Q n env w := by
  refine ⟨fun a ha => wp_mono (wp_region_still_tail m hm hB ?_) NP.imp⟩
  exact wpStill_plan (w := w.drew) (K := fun a' => wpList P l.toArray (NP Q) (l.drop m) a' w.drew) (l.take m) a (h.out rfl a ha)
theorem Post.tail {ops : Array Oper} {r : List Oper} (h : WL P ops Q (fun _ => True) (r.map (·, false)) n env w) : Post (Tail P ops Q r w) .normal n env w :=
  ⟨fun a ha _ => wpList_plan r a w (h.out trivial a ha)⟩

theorem W.loop6 {α β γ δ ε ζ : Type} {c : Code} (envOf : α → β → γ → δ → ε → ζ → Env) (I : α → β → γ → δ → ε → ζ → World → Prop) (μ : α → β → γ → δ → ε → ζ → Nat) (x0 : α) (y0 : β) (z0 : γ) (u0 : δ) (v0 : ε) (s0 : ζ) (h0 : SubL env (envOf x0 y0 z0 u0 v0 s0)) (hI : I x0 y0 z0 u0 v0 s0 w)
    (round : ∀ x y z u v s w, I x y z u v s w → W P c (Exit.then (fun a' w' => ∃ x' y' z' u' v' s', St n (envOf x' y' z' u' v' s') a' ∧ I x' y' z' u' v' s' w' ∧ μ x' y' z' u' v' s' < μ x y z u v s) Q) n (envOf x y z u v s) w) : W P (.loop c) Q n env w :=
  W.loop (ι := α × β × γ × δ × ε × ζ) (fun p => envOf p.1 p.2.1 p.2.2.1 p.2.2.2.1 p.2.2.2.2.1 p.2.2.2.2.2) (fun p => I p.1 p.2.1 p.2.2.1 p.2.2.2.1 p.2.2.2.2.1 p.2.2.2.2.2) (fun p => μ p.1 p.2.1 p.2.2.1 p.2.2.2.1 p.2.2.2.2.1 p.2.2.2.2.2) (x0, y0, z0, u0, v0, s0) h0 hI (fun p w h => ⟨fun a ha => wp_mono ((round p.1 p.2.1 p.2.2.1 p.2.2.2.1 p.2.2.2.2.1 p.2.2.2.2.2 w h).out a ha) (fun e a w q => by
    cases e with
    | normal => obtain ⟨x', y', z', u', v', s', h⟩ := q; exact ⟨(x', y', z', u', v', s'), h⟩
    | _ => exact q)⟩)
theorem Post.round6 {α β γ δ ε ζ : Type} {envOf : α → β → γ → δ → ε → ζ → Env} {I : α → β → γ → δ → ε → ζ → World → Prop} {μ : α → β → γ → δ → ε → ζ → Nat} {m : Nat} (x : α) (y : β) (z : γ) (u : δ) (v : ε) (s : ζ) (hs : SubL env (envOf x y z u v s)) (hI : I x y z u v s w) (hμ : μ x y z u v s < m) :
    Post (Exit.then (fun a' w' => ∃ x' y' z' u' v' s', St n (envOf x' y' z' u' v' s') a' ∧ I x' y' z' u' v' s' w' ∧ μ x' y' z' u' v' s' < m) Q) .normal n env w :=
  ⟨fun _ ha => ⟨x, y, z, u, v, s, ha.sub hs, hI, hμ⟩⟩
theorem W.loop7 {α β γ δ ε ζ η : Type} {c : Code} (envOf : α → β → γ → δ → ε → ζ → η → Env) (I : α → β → γ → δ → ε → ζ → η → World → Prop) (μ : α → β → γ → δ → ε → ζ → η → Nat) (x0 : α) (y0 : β) (z0 : γ) (u0 : δ) (v0 : ε) (s0 : ζ) (t0 : η) (h0 : SubL env (envOf x0 y0 z0 u0 v0 s0 t0)) (hI : I x0 y0 z0 u0 v0 s0 t0 w)
    (round : ∀ x y z u v s t w, I x y z u v s t w → W P c (Exit.then (fun a' w' => ∃ x' y' z' u' v' s' t', St n (envOf x' y' z' u' v' s' t') a' ∧ I x' y' z' u' v' s' t' w' ∧ μ x' y' z' u' v' s' t' < μ x y z u v s t) Q) n (envOf x y z u v s t) w) : W P (.loop c) Q n env w :=
  W.loop (ι := α × β × γ × δ × ε × ζ × η) (fun p => envOf p.1 p.2.1 p.2.2.1 p.2.2.2.1 p.2.2.2.2.1 p.2.2.2.2.2.1 p.2.2.2.2.2.2) (fun p => I p.1 p.2.1 p.2.2.1 p.2.2.2.1 p.2.2.2.2.1 p.2.2.2.2.2.1 p.2.2.2.2.2.2) (fun p => μ p.1 p.2.1 p.2.2.1 p.2.2.2.1 p.2.2.2.2.1 p.2.2.2.2.2.1 p.2.2.2.2.2.2) (x0, y0, z0, u0, v0, s0, t0) h0 hI (fun p w h => ⟨fun a ha => wp_mono ((round p.1 p.2.1 p.2.2.1 p.2.2.2.1 p.2.2.2.2.1 p.2.2.2.2.2.1 p.2.2.2.2.2.2 w h).out a ha) (fun e a w q => by
    cases e with
    | normal => obtain ⟨x', y', z', u', v', s', t', h⟩ := q; exact ⟨(x', y', z', u', v', s', t'), h⟩
    | _ => exact q)⟩)
theorem Post.round7 {α β γ δ ε ζ η : Type} {envOf : α → β → γ → δ → ε → ζ → η → Env} {I : α → β → γ → δ → ε → ζ → η → World → Prop} {μ : α → β → γ → δ → ε → ζ → η → Nat} {m : Nat} (x : α) (y : β) (z : γ) (u : δ) (v : ε) (s : ζ) (t : η) (hs : SubL env (envOf x y z u v s t)) (hI : I x y z u v s t w) (hμ : μ x y z u v s t < m) :
    Post (Exit.then (fun a' w' => ∃ x' y' z' u' v' s' t', St n (envOf x' y' z' u' v' s' t') a' ∧ I x' y' z' u' v' s' t' w' ∧ μ x' y' z' u' v' s' t' < m) Q) .normal n env w :=
  ⟨fun _ ha => ⟨x, y, z, u, v, s, t, ha.sub hs, hI, hμ⟩⟩
theorem W.loop8 {α β γ δ ε ζ η θ : Type} {c : Code} (envOf : α → β → γ → δ → ε → ζ → η → θ → Env) (I : α → β → γ → δ → ε → ζ → η → θ → World → Prop) (μ : α → β → γ → δ → ε → ζ → η → θ → Nat) (x0 : α) (y0 : β) (z0 : γ) (u0 : δ) (v0 : ε) (s0 : ζ) (t0 : η) (r0 : θ) (h0 : SubL env (envOf x0 y0 z0 u0 v0 s0 t0 r0)) (hI : I x0 y0 z0 u0 v0 s0 t0 r0 w)
    (round : ∀ x y z u v s t r w, I x y z u v s t r w → W P c (Exit.then (fun a' w' => ∃ x' y' z' u' v' s' t' r', St n (envOf x' y' z' u' v' s' t' r') a' ∧ I x' y' z' u' v' s' t' r' w' ∧ μ x' y' z' u' v' s' t' r' < μ x y z u v s t r) Q) n (envOf x y z u v s t r) w) : W P (.loop c) Q n env w :=
  W.loop (ι := α × β × γ × δ × ε × ζ × η × θ) (fun p => envOf p.1 p.2.1 p.2.2.1 p.2.2.2.1 p.2.2.2.2.1 p.2.2.2.2.2.1 p.2.2.2.2.2.2.1 p.2.2.2.2.2.2.2) (fun p => I p.1 p.2.1 p.2.2.1 p.2.2.2.1 p.2.2.2.2.1 p.2.2.2.2.2.1 p.2.2.2.2.2.2.1 p.2.2.2.2.2.2.2) (fun p => μ p.1 p.2.1 p.2.2.1 p.2.2.2.1 p.2.2.2.2.1 p.2.2.2.2.2.1 p.2.2.2.2.2.2.1 p.2.2.2.2.2.2.2) (x0, y0, z0, u0, v0, s0, t0, r0) h0 hI (fun p w h => ⟨fun a ha => wp_mono ((round p.1 p.2.1 p.2.2.1 p.2.2.2.1 p.2.2.2.2.1 p.2.2.2.2.2.1 p.2.2.2.2.2.2.1 p.2.2.2.2.2.2.2 w h).out a ha) (fun e a w q => by
    cases e with
    | normal => obtain ⟨x', y', z', u', v', s', t', r', h⟩ := q; exact ⟨(x', y', z', u', v', s', t', r'), h⟩
    | _ => exact q)⟩)
theorem Post.round8 {α β γ δ ε ζ η θ : Type} {envOf : α → β → γ → δ → ε → ζ → η → θ → Env} {I : α → β → γ → δ → ε → ζ → η → θ → World → Prop} {μ : α → β → γ → δ → ε → ζ → η → θ → Nat} {m : Nat} (x : α) (y : β) (z : γ) (u : δ) (v : ε) (s : ζ) (t : η) (r : θ) (hs : SubL env (envOf x y z u v s t r)) (hI : I x y z u v s t r w) (hμ : μ x y z u v s t r < m) :
    Post (Exit.then (fun a' w' => ∃ x' y' z' u' v' s' t' r', St n (envOf x' y' z' u' v' s' t' r') a' ∧ I x' y' z' u' v' s' t' r' w' ∧ μ x' y' z' u' v' s' t' r' < m) Q) .normal n env w :=
  ⟨fun _ ha => ⟨x, y, z, u, v, s, t, r, ha.sub hs, hI, hμ⟩⟩

end
end Go.Lx
