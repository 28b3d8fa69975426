/-
  A region that draws whose last operations wait for all others: what is asked of the world all along need not hold behind those last ones. Over any program.
-/
import Derived.Test.Qxb6603068aMore
namespace Go.Lx
open Go.RowKit (Below)

section
variable {P : Program} {Q : Exit → Act → World → Prop} {S : World → Prop} {l : List Oper} {ops : Array Oper}

theorem Oper.wp_Q {Q Q' : Exit → Act → World → Prop} {o : Oper} {a : Act} {w : World} {K : Act → World → Prop} (hp : ∀ c a w, Q (.panic c) a w → Q' (.panic c) a w) (ho : ∀ a w, Q .outgrown a w → Q' .outgrown a w)
    (h : o.wp P a w K Q) : o.wp P a w K Q' := by
  have hl : LetsOut Q → LetsOut Q' := fun ⟨a, w, h⟩ => ⟨a, w, ho a w h⟩
  unfold Oper.wp at *
  generalize (execOp a.eval o).run P w = r at *
  cases r with
  | ok n w' =>
    cases n <;> simp only [Oper.upon] at h ⊢ <;>
      first
        | exact h
        | exact Calls.mono h (fun e w'' he => by cases e <;> first | exact he | exact hp _ _ _ he | exact hl he)
  | halt x w' => cases x <;> simp only [Oper.upon] at h ⊢ <;> first | exact h | exact hp _ _ _ h
theorem wpOp_Q {Q Q' : Exit → Act → World → Prop} {i : Nat} {a : Act} {w : World} {K : Act → World → Prop} (hp : ∀ c a w, Q (.panic c) a w → Q' (.panic c) a w) (ho : ∀ a w, Q .outgrown a w → Q' .outgrown a w)
    (h : wpOp P ops Q i K a w) : wpOp P ops Q' i K a w := by
  have hl : LetsOut Q → LetsOut Q' := fun ⟨a, w, h⟩ => ⟨a, w, ho a w h⟩
  unfold wpOp at *
  split
  · rename_i ho'; simp only [ho'] at h; exact h
  · rename_i o ho'
    simp only [ho'] at h
    split
    · rename_i hw; simp only [hw, if_true] at h; exact h.imp (Oper.wp_Q hp ho) (fun ⟨h1, h2⟩ => ⟨h1, hl h2⟩)
    · rename_i hw; simp only [hw] at h; exact h

/-- Whatever order, S behind each operation, till all but the last ones have come up; then K. -/
def wpAnyF (P : Program) (ops : Array Oper) (Q : Exit → Act → World → Prop) (S : World → Prop) (K : Array Bool → Act → World → Prop) : Nat → Array Bool → Act → World → Prop
  | 0, listed, a, w => K listed a w
  | fuel + 1, listed, a, w => Region.ready .any ops listed ≠ [] ∧
    ∀ i ∈ Region.ready .any ops listed, wpOp P ops Q i (fun a' w' => S w' ∧ wpAnyF P ops Q S K fuel (listed.setIfInBounds i true) a' w') a w

def waits (ops : Array Oper) (j i : Nat) : Bool :=
  match ops[j]? with
  | some oj => oj.after.any fun e => Region.binds .any e && e.on == i
  | none => false
def allBut (ops : Array Oper) (τ : List Nat) (listed : Array Bool) : Bool := (List.range ops.size).all fun j => τ.contains j || listed.getD j false

theorem not_ready_of_waits {listed : Array Bool} {i j : Nat} (hw : waits ops j i = true) (hi : listed.getD i true = false) : j ∉ Region.ready .any ops listed := by
  intro hj
  obtain ⟨_, oj, hoj, hall⟩ := mem_ready.1 hj
  unfold waits at hw
  simp only [hoj] at hw
  obtain ⟨e, he, hb⟩ := Array.any_eq_true'.1 hw
  simp only [Bool.and_eq_true, beq_iff_eq] at hb
  have h1 := hall e he hb.1
  rw [hb.2] at h1
  rcases Nat.lt_or_ge i listed.size with h' | h'
  · simp [h'] at hi h1; rw [hi] at h1; cases h1
  · simp [Array.getElem?_eq_none h'] at h1

theorem wpAnyF_first {K : Array Bool → Act → World → Prop} {τ : List Nat} {i : Nat} {oi : Oper} {v : Value} (hi : ops[i]? = some oi) (hsel : ∀ (j : Nat) (o : Oper) cs b, ops[j]? = some o → o.op ≠ .select cs b)
    (hQ : ∀ c a w, Q (.panic c) (a.put oi.dst v) w → Q (.panic c) a w) (hK : ∀ listed a w, K listed a w → allBut ops τ listed = true) (hτ : ∀ j ∈ τ, waits ops j i = true) :
    ∀ (fuel : Nat) (listed : Array Bool) (a : Act) (w : World),
      (∀ j oj, ops[j]? = some oj → j ≠ i → listed.getD j true = false → (∀ e ∈ oj.after, Region.binds .any e = true → e.on ≠ i) → oi.apart ops oj = true) →
      i ∈ Region.ready .any ops listed → YieldsIf P ops S oi v a → S w →
      wpAnyF P ops Q S K fuel (listed.setIfInBounds i true) (a.put oi.dst v) w → wpAnyF P ops Q S K (fuel + 1) listed a w := by
  intro fuel
  induction fuel with
  | zero =>
    intro listed a w _ hr hy hS H
    refine ⟨fun h => (by rw [h] at hr; cases hr), fun j hj => ?_⟩
    by_cases hji : j = i
    · subst hji; exact hy.wpOp hi hS ⟨hS, H⟩
    · exfalso
      have hun := (mem_ready.1 hr).1
      have hall := hK _ _ _ H
      have hjs := ready_lt hj
      have := List.all_eq_true.1 hall j (by simpa using hjs)
      rw [Bool.or_eq_true] at this
      rcases this with h | h
      · exact not_ready_of_waits (hτ j (by simpa using h)) hun hj
      · rw [getD_set_ne false (Ne.symm hji)] at h
        have hjun := (mem_ready.1 hj).1
        rcases Nat.lt_or_ge j listed.size with h' | h'
        · simp [h'] at h hjun; rw [h] at hjun; cases hjun
        · simp [Array.getElem?_eq_none h'] at h
  | succ fuel ih =>
    intro listed a w hfree hr hy hS H
    refine ⟨fun h => (by rw [h] at hr; cases hr), fun j hj => ?_⟩
    by_cases hji : j = i
    · subst hji; exact hy.wpOp hi hS ⟨hS, H⟩
    · have h1 := H.2 j (ready_mono hj hji)
      obtain ⟨hjun, oj, hoj, hall⟩ := mem_ready.1 hj
      have hnot : ∀ e ∈ oj.after, Region.binds .any e = true → e.on ≠ i := fun e he hb heq => by
        have h1 := hall e he hb
        have h0 := (mem_ready.1 hr).1
        rw [heq] at h1
        rcases Nat.lt_or_ge i listed.size with h' | h'
        · simp [h'] at h0 h1; rw [h0] at h1; cases h1
        · simp [Array.getElem?_eq_none h'] at h1
      have h2 := wpOp_putIf hoj (hfree j oj hoj hji hjun hnot) (fun cs b => hsel i oi cs b hi) (fun cs b => hsel j oj cs b hoj) hQ hy h1
      have hfree' : ∀ k ok, ops[k]? = some ok → k ≠ i → (listed.setIfInBounds j true).getD k true = false →
          (∀ e ∈ ok.after, Region.binds .any e = true → e.on ≠ i) → oi.apart ops ok = true := fun k ok hk hki hun hno => by
        refine hfree k ok hk hki ?_ hno
        by_cases hjk : j = k
        · subst hjk; exact hjun
        · rw [getD_set_ne true hjk] at hun; exact hun
      refine wpOp_mono (fun a' w' h3 => ⟨h3.2.1, ih (listed.setIfInBounds j true) a' w' hfree' (ready_mono hr (Ne.symm hji)) h3.1 h3.2.1 ?_⟩) h2
      rw [Array.setIfInBounds_comm _ _ hji]
      exact h3.2.2

/-- The plan's first part (quiet operations first, S all along), then the last ones in their order. -/
def planF (ops : Array Oper) (τ : List Nat) : List (Nat × Bool) → Array Bool → Bool
  | [], listed => planB ops (τ.map (·, false)) listed && allBut ops τ listed
  | (i, true) :: r, listed => (Region.ready .any ops listed).contains i && Region.free .any ops listed i && τ.all (fun j => waits ops j i) && planF ops τ r (listed.setIfInBounds i true)
  | (i, false) :: r, listed => (Region.ready .any ops listed) == [i] && planF ops τ r (listed.setIfInBounds i true)
def planFAll (ops : Array Oper) (σ : List (Nat × Bool)) (τ : List Nat) : Bool :=
  Region.noSelect ops && (σ.length + τ.length == ops.size) && planF ops τ σ (Array.replicate ops.size false)

theorem wpAnyF_plan {τ : List Nat} (hs : Region.noSelect l.toArray = true) : ∀ (σ : List (Nat × Bool)) (listed : Array Bool) (a : Act) (w : World), planF l.toArray τ σ listed = true → S w →
    wpPlan P l.toArray (NP (Exit.then (fun a w => wpPlan P l.toArray (NP Q) (fun _ => True) (τ.map fun i => (nthO l i, false)) a w) Q)) S (σ.map fun p => (nthO l p.1, p.2)) a w →
    wpAnyF P l.toArray (NP Q) S (fun listed a w => allBut l.toArray τ listed = true ∧ wpAny P .any l.toArray (NP Q) τ.length listed a w) σ.length listed a w
  | [], listed, a, w, hB, _, h => by
    simp only [planF, Bool.and_eq_true] at hB
    refine ⟨hB.2, wpAny_of_held (S := fun _ => True) _ _ _ _ ?_⟩
    have := wpAnyH_plan (P := P) (Q := Q) (S := fun _ => True) hs (τ.map (·, false)) listed a w hB.1 trivial (by
      have h' : wpPlan P l.toArray (NP Q) (fun _ => True) (τ.map fun i => (nthO l i, false)) a w := h
      simpa [Function.comp_def] using h')
    simpa using this
  | (i, true) :: r, listed, a, w, hB, hS, h => by
    simp only [planF, Bool.and_eq_true] at hB
    obtain ⟨⟨⟨hr, hf⟩, hw⟩, hB'⟩ := hB
    have hm : i ∈ Region.ready .any l.toArray listed := by simpa using hr
    have hi := nthO_spec l i (by simpa using ready_lt hm)
    simp only [List.map_cons, wpPlan] at h
    obtain ⟨v, hy, hk⟩ := h
    exact wpAnyF_first (τ := τ) hi (Region.noSelect_spec hs) (fun _ _ _ hq => hq) (fun _ _ _ hK => hK.1) (fun j hj => List.all_eq_true.1 hw j hj) _ listed a w (Region.free_spec hi hf) hm hy hS (wpAnyF_plan hs r _ _ _ hB' hS hk)
  | (i, false) :: r, listed, a, w, hB, hS, h => by
    simp only [planF, Bool.and_eq_true, beq_iff_eq] at hB
    obtain ⟨hr, hB'⟩ := hB
    have hm : i ∈ Region.ready .any l.toArray listed := by rw [hr]; simp
    have hi := nthO_spec l i (by simpa using ready_lt hm)
    simp only [List.map_cons, wpPlan] at h
    refine ⟨by rw [hr]; simp, fun j hj => ?_⟩
    rw [hr] at hj
    have hji : j = i := by simpa using hj
    subst hji
    unfold wpOp
    simp only [hi]
    by_cases hw : Region.wanted (nthO l j) (yielded l.toArray a.tmps) = true
    · rw [if_pos hw] at h ⊢
      have h2 := Oper.wp_Q (Q := NP (Exit.then (fun a w => wpPlan P l.toArray (NP Q) (fun _ => True) (τ.map fun i => (nthO l i, false)) a w) Q)) (Q' := NP Q) (fun _ _ _ h => (h : False).elim) (fun _ _ h => h) h
      exact .inl (Oper.wp_mono (fun a' w' hh => ⟨hh.1, wpAnyF_plan hs r _ _ _ hB' hh.1 hh.2⟩) h2)
    · rw [if_neg hw] at h ⊢
      exact ⟨hS, wpAnyF_plan hs r _ _ _ hB' hS h⟩

theorem wpAny_of_F {K : Array Bool → Act → World → Prop} {m : Nat} (hK : ∀ listed a w, K listed a w → wpAny P .any ops Q m listed a w) : ∀ (fuel : Nat) (listed : Array Bool) (a : Act) (w : World), wpAnyF P ops Q S K fuel listed a w → wpAny P .any ops Q (m + fuel) listed a w
  | 0, _, _, _, h => hK _ _ _ h
  | fuel + 1, _, _, _, h => ⟨fun h0 => absurd h0 h.1, fun i hi => wpOp_mono (fun a' w' h' => wpAny_of_F hK fuel _ a' w' h'.2) (h.2 i hi)⟩

variable {n : Nat} {env : Env} {w : World}
/-- A region that draws: quiet ones first, S all along; the last ones ('τ'), which wait for all others, behind. -/
theorem W.region_f {id : Nat} (σ : List (Nat × Bool)) (τ : List Nat) (S : World → Prop) (hm : P.follows .mixedOrders = true) (hB : planFAll l.toArray σ τ = true) (hS : S w.drew)
    (h : WL P l.toArray (Exit.then (fun a w => wpPlan P l.toArray (NP Q) (fun _ => True) (τ.map fun i => (nthO l i, false)) a w) Q) S (σ.map fun p => (nthO l p.1, p.2)) n env w.drew) : W P (.region id l.toArray true) Q n env w := by
  refine ⟨fun a ha => ?_⟩
  simp only [planFAll, Bool.and_eq_true, beq_iff_eq] at hB
  obtain ⟨⟨hs, hl⟩, hB⟩ := hB
  refine wp_mono (wp_region_any hm ?_) NP.imp
  have := wpAnyF_plan (P := P) (Q := Q) hs σ _ a w.drew hB hS (h.out hS a ha)
  have := wpAny_of_F (fun _ _ _ hk => hk.2) _ _ _ _ this
  rw [show τ.length + σ.length = l.toArray.size by omega] at this
  exact this
theorem Post.fin {r : List (Oper × Bool)} (h : WL P ops Q (fun _ => True) r n env w) : Post (Exit.then (fun a w => wpPlan P ops (NP Q) (fun _ => True) r a w) Q) .normal n env w :=
  ⟨fun a ha => h.out trivial a ha⟩
end
end Go.Lx
