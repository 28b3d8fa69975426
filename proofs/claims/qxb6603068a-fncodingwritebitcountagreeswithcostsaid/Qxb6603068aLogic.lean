/-
  A LOGIC OF THE FRAME: what is known of a frame is a list of slots with their values; operations are run by rules, one a kind of operation; a region that draws its order is run by a plan (quiet operations first). Over any program. Own work of this seat.
-/
import Derived.WalkKit
import Derived.OrdersHeld
namespace Go.Lx
open Go.RowKit (Below)

/-! ### Slots -/
abbrev Env := List (Nat × Value)

def look : Env → Nat → Option Value
  | [], _ => none
  | (k, v) :: r, t => bif Nat.beq k t then some v else look r t

def ev (env : Env) : Operand → Option Value
  | .tmp t => look env t
  | .const v => some v
  | .global g => some (.pointer (some ⟨g, 0, none⟩))
  | .func f => some (.func (.func f) #[] #[])

structure St (n : Nat) (env : Env) (a : Act) : Prop where
  size : a.tmps.size = n
  defers : a.defers = []
  fits : ∀ t v, look env t = some v → a.tmps[t]? = some v

def Agrees (ρ : Operand → Value) (env : Env) : Prop := ∀ x v, ev env x = some v → ρ x = v

theorem St.agrees {n : Nat} {env : Env} {a : Act} (h : St n env a) : Agrees a.eval env := by
  intro x v hx
  cases x with
  | tmp t =>
    have := h.fits t v hx
    simp [Act.eval, this]
  | const u => simpa [ev, Act.eval] using hx
  | global g => simpa [ev, Act.eval] using hx
  | func f => simpa [ev, Act.eval] using hx

def dstOk (n : Nat) : Option Nat → Bool
  | none => true
  | some d => Nat.blt d n

def putE (dst : Option Nat) (v : Value) (env : Env) : Env :=
  match dst with
  | none => env
  | some d => (d, v) :: env

theorem St.put {n : Nat} {env : Env} {a : Act} (h : St n env a) {dst : Option Nat} (hd : dstOk n dst = true) (v : Value) : St n (putE dst v env) (a.put dst v) := by
  cases dst with
  | none => exact h
  | some d =>
    have hd' : d < n := by simpa [dstOk] using hd
    refine ⟨by simp [Act.put, h.size], by simp [Act.put, h.defers], ?_⟩
    intro t u hu
    simp only [putE, look] at hu
    by_cases e : d = t
    · subst e
      simp only [Nat.beq_refl, cond_true, Option.some.injEq] at hu
      subst hu
      simp [Act.put, h.size, hd']
    · have : Nat.beq d t = false := by
        rw [Bool.eq_false_iff]; intro hb; exact e (Nat.eq_of_beq_eq_true hb)
      rw [this, cond_false] at hu
      simp only [Act.put]
      rw [Array.getElem?_setIfInBounds_ne e]
      exact h.fits t u hu

/-- Each of the second list's slots reads so in the first. -/
def SubL (env : Env) : Env → Prop
  | [] => True
  | (t, v) :: r => look env t = some v ∧ SubL env r

theorem SubL.look {env : Env} : ∀ {env' : Env}, SubL env env' → ∀ t v, look env' t = some v → Lx.look env t = some v
  | [], _, t, v, h => by simp [Lx.look] at h
  | (k, u) :: r, hs, t, v, h => by
    simp only [Lx.look] at h
    by_cases e : k = t
    · subst e
      simp only [Nat.beq_refl, cond_true, Option.some.injEq] at h
      subst h
      exact hs.1
    · have : Nat.beq k t = false := by
        rw [Bool.eq_false_iff]; intro hb; exact e (Nat.eq_of_beq_eq_true hb)
      rw [this, cond_false] at h
      exact SubL.look hs.2 t v h

theorem St.sub {n : Nat} {env env' : Env} {a : Act} (h : St n env a) (hs : SubL env env') : St n env' a :=
  ⟨h.size, h.defers, fun t v ht => h.fits t v (hs.look t v ht)⟩

/-! ### Posts and code -/
structure Post (Q : Exit → Act → World → Prop) (e : Exit) (n : Nat) (env : Env) (w : World) : Prop where
  out : ∀ a, St n env a → Q e a w

structure W (P : Program) (c : Code) (Q : Exit → Act → World → Prop) (n : Nat) (env : Env) (w : World) : Prop where
  out : ∀ a, St n env a → c.wp P Q a w

section code
variable {P : Program} {Q : Exit → Act → World → Prop} {n : Nat} {env : Env} {w : World}

theorem W.seq {x y : Code} (h : W P x (Exit.then (y.wp P Q) Q) n env w) : W P (.seq x y) Q n env w := ⟨fun a ha => wp_seq (h.out a ha)⟩
theorem W.skip (h : Post Q .normal n env w) : W P .skip Q n env w := ⟨fun a ha => wp_skip (h.out a ha)⟩
theorem W.exit {id : Nat} (h : Post Q (.exit id) n env w) : W P (.exit id) Q n env w := ⟨fun a ha => wp_exit (h.out a ha)⟩
theorem W.ret (h : Post Q .ret n env w) : W P .ret Q n env w := ⟨fun a ha => wp_ret (h.out a ha)⟩
theorem W.block {id : Nat} {c : Code} (h : W P c (Exit.inBlock id Q) n env w) : W P (.block id c) Q n env w := ⟨fun a ha => wp_block (h.out a ha)⟩
theorem W.sub {c : Code} (env' : Env) (hs : SubL env env') (h : W P c Q n env' w) : W P c Q n env w := ⟨fun a ha => h.out a (ha.sub hs)⟩
theorem W.cond_t {c : Operand} {x y : Code} (hc : ev env c = some (.bool true)) (h : W P x Q n env w) : W P (.cond c x y) Q n env w :=
  ⟨fun a ha => wp_cond_true (ha.agrees _ _ hc) (h.out a ha)⟩
theorem W.cond_f {c : Operand} {x y : Code} (hc : ev env c = some (.bool false)) (h : W P y Q n env w) : W P (.cond c x y) Q n env w :=
  ⟨fun a ha => wp_cond_false (ha.agrees _ _ hc) (h.out a ha)⟩
theorem W.cond_b {c : Operand} {x y : Code} {b : Bool} (hc : ev env c = some (.bool b)) (ht : b = true → W P x Q n env w) (hf : b = false → W P y Q n env w) : W P (.cond c x y) Q n env w := by
  cases b with
  | true => exact W.cond_t hc (ht rfl)
  | false => exact W.cond_f hc (hf rfl)

/-- The loop: 'i' is what the rounds go by; 'envOf i' the slots at a round's head. -/
theorem W.loop {ι : Type} {c : Code} (envOf : ι → Env) (I : ι → World → Prop) (μ : ι → Nat) (i0 : ι) (h0 : SubL env (envOf i0)) (hI : I i0 w)
    (round : ∀ i w, I i w → W P c (Exit.then (fun a' w' => ∃ j, St n (envOf j) a' ∧ I j w' ∧ μ j < μ i) Q) n (envOf i) w) : W P (.loop c) Q n env w := by
  refine ⟨fun a ha b k cs => ?_⟩
  have key : ∀ m i a w, μ i = m → St n (envOf i) a → I i w →
      ∃ e a' w', Q e a' w' ∧ Arrives P (lone (b.at a (.code c :: .inLoop c :: k)) cs w) b k cs e a' w' := by
    intro m
    induction m using Nat.strongRecOn with
    | _ m ih =>
      intro i a w hm ha hi
      obtain ⟨e, a₁, w₁, hq, harr⟩ := (round i w hi).out a ha b (.inLoop c :: k) cs
      cases e with
      | normal =>
        obtain ⟨j, hj, hIj, hlt⟩ := hq
        obtain ⟨e₂, a₂, w₂, hq₂, harr₂⟩ := ih (μ j) (hm ▸ hlt) j a₁ w₁ rfl hj hIj
        exact ⟨e₂, a₂, w₂, hq₂, .of_steps (Steps.trans harr (.one step_inLoop)) harr₂⟩
      | exit id => exact ⟨_, a₁, w₁, hq, .pass (x := .inLoop c) rfl (fun _ _ => .inl (by simp)) harr⟩
      | goto l => exact ⟨_, a₁, w₁, hq, .pass (x := .inLoop c) rfl (fun _ _ => .inl (by simp)) harr⟩
      | ret => exact ⟨_, a₁, w₁, hq, .pass (x := .inLoop c) rfl (fun _ _ => .inl (by simp)) harr⟩
      | panic ch => exact ⟨_, a₁, w₁, hq, .pass (x := .inLoop c) rfl (fun _ _ => .inl (by simp)) harr⟩
      | outgrown => exact ⟨_, a₁, w₁, hq, .pass (x := .inLoop c) rfl (fun _ _ => .inl (by simp)) harr⟩
  obtain ⟨e, a', w', hq, harr⟩ := key _ i0 a w rfl (ha.sub h0) hI
  exact ⟨e, a', w', hq, .of_steps (.one step_loop) harr⟩

/-- The round's end. -/
theorem Post.round {ι : Type} {envOf : ι → Env} {I : ι → World → Prop} {μ : ι → Nat} {m : Nat} (j : ι) (hs : SubL env (envOf j)) (hI : I j w) (hμ : μ j < m) :
    Post (Exit.then (fun a' w' => ∃ j, St n (envOf j) a' ∧ I j w' ∧ μ j < m) Q) .normal n env w :=
  ⟨fun _ ha => ⟨j, ha.sub hs, hI, hμ⟩⟩
theorem W.loop2 {α β : Type} {c : Code} (envOf : α → β → Env) (I : α → β → World → Prop) (μ : α → β → Nat) (x0 : α) (y0 : β) (h0 : SubL env (envOf x0 y0)) (hI : I x0 y0 w)
    (round : ∀ x y w, I x y w → W P c (Exit.then (fun a' w' => ∃ x' y', St n (envOf x' y') a' ∧ I x' y' w' ∧ μ x' y' < μ x y) Q) n (envOf x y) w) : W P (.loop c) Q n env w :=
  W.loop (ι := α × β) (fun p => envOf p.1 p.2) (fun p => I p.1 p.2) (fun p => μ p.1 p.2) (x0, y0) h0 hI (fun p w h => ⟨fun a ha => wp_mono ((round p.1 p.2 w h).out a ha) (fun e a w q => by
    cases e with
    | normal => obtain ⟨x', y', h⟩ := q; exact ⟨(x', y'), h⟩
    | _ => exact q)⟩)
theorem Post.round2 {α β : Type} {envOf : α → β → Env} {I : α → β → World → Prop} {μ : α → β → Nat} {m : Nat} (x : α) (y : β) (hs : SubL env (envOf x y)) (hI : I x y w) (hμ : μ x y < m) :
    Post (Exit.then (fun a' w' => ∃ x' y', St n (envOf x' y') a' ∧ I x' y' w' ∧ μ x' y' < m) Q) .normal n env w :=
  ⟨fun _ ha => ⟨x, y, ha.sub hs, hI, hμ⟩⟩
theorem W.loop3 {α β γ : Type} {c : Code} (envOf : α → β → γ → Env) (I : α → β → γ → World → Prop) (μ : α → β → γ → Nat) (x0 : α) (y0 : β) (z0 : γ) (h0 : SubL env (envOf x0 y0 z0)) (hI : I x0 y0 z0 w)
    (round : ∀ x y z w, I x y z w → W P c (Exit.then (fun a' w' => ∃ x' y' z', St n (envOf x' y' z') a' ∧ I x' y' z' w' ∧ μ x' y' z' < μ x y z) Q) n (envOf x y z) w) : W P (.loop c) Q n env w :=
  W.loop (ι := α × β × γ) (fun p => envOf p.1 p.2.1 p.2.2) (fun p => I p.1 p.2.1 p.2.2) (fun p => μ p.1 p.2.1 p.2.2) (x0, y0, z0) h0 hI (fun p w h => ⟨fun a ha => wp_mono ((round p.1 p.2.1 p.2.2 w h).out a ha) (fun e a w q => by
    cases e with
    | normal => obtain ⟨x', y', z', h⟩ := q; exact ⟨(x', y', z'), h⟩
    | _ => exact q)⟩)
theorem Post.round3 {α β γ : Type} {envOf : α → β → γ → Env} {I : α → β → γ → World → Prop} {μ : α → β → γ → Nat} {m : Nat} (x : α) (y : β) (z : γ) (hs : SubL env (envOf x y z)) (hI : I x y z w) (hμ : μ x y z < m) :
    Post (Exit.then (fun a' w' => ∃ x' y' z', St n (envOf x' y' z') a' ∧ I x' y' z' w' ∧ μ x' y' z' < m) Q) .normal n env w :=
  ⟨fun _ ha => ⟨x, y, z, ha.sub hs, hI, hμ⟩⟩
theorem W.loop4 {α β γ δ : Type} {c : Code} (envOf : α → β → γ → δ → Env) (I : α → β → γ → δ → World → Prop) (μ : α → β → γ → δ → Nat) (x0 : α) (y0 : β) (z0 : γ) (u0 : δ) (h0 : SubL env (envOf x0 y0 z0 u0)) (hI : I x0 y0 z0 u0 w)
    (round : ∀ x y z u w, I x y z u w → W P c (Exit.then (fun a' w' => ∃ x' y' z' u', St n (envOf x' y' z' u') a' ∧ I x' y' z' u' w' ∧ μ x' y' z' u' < μ x y z u) Q) n (envOf x y z u) w) : W P (.loop c) Q n env w :=
  W.loop (ι := α × β × γ × δ) (fun p => envOf p.1 p.2.1 p.2.2.1 p.2.2.2) (fun p => I p.1 p.2.1 p.2.2.1 p.2.2.2) (fun p => μ p.1 p.2.1 p.2.2.1 p.2.2.2) (x0, y0, z0, u0) h0 hI (fun p w h => ⟨fun a ha => wp_mono ((round p.1 p.2.1 p.2.2.1 p.2.2.2 w h).out a ha) (fun e a w q => by
    cases e with
    | normal => obtain ⟨x', y', z', u', h⟩ := q; exact ⟨(x', y', z', u'), h⟩
    | _ => exact q)⟩)
theorem Post.round4 {α β γ δ : Type} {envOf : α → β → γ → δ → Env} {I : α → β → γ → δ → World → Prop} {μ : α → β → γ → δ → Nat} {m : Nat} (x : α) (y : β) (z : γ) (u : δ) (hs : SubL env (envOf x y z u)) (hI : I x y z u w) (hμ : μ x y z u < m) :
    Post (Exit.then (fun a' w' => ∃ x' y' z' u', St n (envOf x' y' z' u') a' ∧ I x' y' z' u' w' ∧ μ x' y' z' u' < m) Q) .normal n env w :=
  ⟨fun _ ha => ⟨x, y, z, u, ha.sub hs, hI, hμ⟩⟩
theorem W.loop5 {α β γ δ ε : Type} {c : Code} (envOf : α → β → γ → δ → ε → Env) (I : α → β → γ → δ → ε → World → Prop) (μ : α → β → γ → δ → ε → Nat) (x0 : α) (y0 : β) (z0 : γ) (u0 : δ) (v0 : ε) (h0 : SubL env (envOf x0 y0 z0 u0 v0)) (hI : I x0 y0 z0 u0 v0 w)
    (round : ∀ x y z u v w, I x y z u v w → W P c (Exit.then (fun a' w' => ∃ x' y' z' u' v', St n (envOf x' y' z' u' v') a' ∧ I x' y' z' u' v' w' ∧ μ x' y' z' u' v' < μ x y z u v) Q) n (envOf x y z u v) w) : W P (.loop c) Q n env w :=
  W.loop (ι := α × β × γ × δ × ε) (fun p => envOf p.1 p.2.1 p.2.2.1 p.2.2.2.1 p.2.2.2.2) (fun p => I p.1 p.2.1 p.2.2.1 p.2.2.2.1 p.2.2.2.2) (fun p => μ p.1 p.2.1 p.2.2.1 p.2.2.2.1 p.2.2.2.2) (x0, y0, z0, u0, v0) h0 hI (fun p w h => ⟨fun a ha => wp_mono ((round p.1 p.2.1 p.2.2.1 p.2.2.2.1 p.2.2.2.2 w h).out a ha) (fun e a w q => by
    cases e with
    | normal => obtain ⟨x', y', z', u', v', h⟩ := q; exact ⟨(x', y', z', u', v'), h⟩
    | _ => exact q)⟩)
theorem Post.round5 {α β γ δ ε : Type} {envOf : α → β → γ → δ → ε → Env} {I : α → β → γ → δ → ε → World → Prop} {μ : α → β → γ → δ → ε → Nat} {m : Nat} (x : α) (y : β) (z : γ) (u : δ) (v : ε) (hs : SubL env (envOf x y z u v)) (hI : I x y z u v w) (hμ : μ x y z u v < m) :
    Post (Exit.then (fun a' w' => ∃ x' y' z' u' v', St n (envOf x' y' z' u' v') a' ∧ I x' y' z' u' v' w' ∧ μ x' y' z' u' v' < m) Q) .normal n env w :=
  ⟨fun _ ha => ⟨x, y, z, u, v, ha.sub hs, hI, hμ⟩⟩
theorem Post.next {y : Code} (h : W P y Q n env w) : Post (Exit.then (y.wp P Q) Q) .normal n env w := ⟨fun a ha => h.out a ha⟩
theorem Post.then_exit {K : Act → World → Prop} {id : Nat} (h : Post Q (.exit id) n env w) : Post (Exit.then K Q) (.exit id) n env w := ⟨fun a ha => h.out a ha⟩
theorem Post.then_ret {K : Act → World → Prop} (h : Post Q .ret n env w) : Post (Exit.then K Q) .ret n env w := ⟨fun a ha => h.out a ha⟩
theorem Post.block_normal {id : Nat} (h : Post Q .normal n env w) : Post (Exit.inBlock id Q) .normal n env w := ⟨fun a ha => h.out a ha⟩
theorem Post.block_ret {id : Nat} (h : Post Q .ret n env w) : Post (Exit.inBlock id Q) .ret n env w := ⟨fun a ha => h.out a ha⟩
theorem Post.block_exit {id : Nat} (h : Post Q .normal n env w) : Post (Exit.inBlock id Q) (.exit id) n env w := ⟨fun a ha => by simpa [Exit.inBlock] using h.out a ha⟩
theorem Post.block_other {id id' : Nat} (hne : Nat.beq id' id = false) (h : Post Q (.exit id') n env w) : Post (Exit.inBlock id Q) (.exit id') n env w :=
  ⟨fun a ha => by
    have : ¬ id' = id := fun e => by subst e; simp at hne
    simpa [Exit.inBlock, this] using h.out a ha⟩

/-- The ways meet again: what holds behind 'x' by itself. -/
theorem W.seq_cut {x y : Code} (R : Env → World → Prop) (h : W P x (Exit.then (fun a w => ∃ env', St n env' a ∧ R env' w) Q) n env w)
    (hy : ∀ env' w', R env' w' → W P y Q n env' w') : W P (.seq x y) Q n env w :=
  ⟨fun a ha => wp_seq (wp_mono (h.out a ha) (fun e a w q => by
    cases e with
    | normal => obtain ⟨env', hs, hr⟩ := q; exact (hy env' w hr).out a hs
    | _ => exact q))⟩
theorem Post.cut {R : Env → World → Prop} (env' : Env) (hs : SubL env env') (h : R env' w) :
    Post (Exit.then (fun a w => ∃ env', St n env' a ∧ R env' w) Q) .normal n env w := ⟨fun _ ha => ⟨env', ha.sub hs, h⟩⟩
end code

/-! ### Regions: a plan -/
/-- The post, but 'False' at a panic. -/
def NP (Q : Exit → Act → World → Prop) : Exit → Act → World → Prop
  | .panic _, _, _ => False
  | e, a, w => Q e a w
theorem NP.imp {Q : Exit → Act → World → Prop} : ∀ (e : Exit) (a : Act) (w : World), NP Q e a w → Q e a w := fun e a w h => by
  cases e <;> first | exact h | exact (h : False).elim

def nthO : List Oper → Nat → Oper
  | [], _ => default
  | o :: _, 0 => o
  | _ :: l, i + 1 => nthO l i

theorem nthO_spec : ∀ (l : List Oper) (i : Nat), i < l.length → l.toArray[i]? = some (nthO l i)
  | [], i, h => by simp at h
  | o :: l, 0, _ => by simp [nthO]
  | o :: l, i + 1, h => by
    have := nthO_spec l i (by simpa using h)
    simpa [nthO] using this

/-- The operations in the plan's order; 'true': quiet, taken first; 'false': carried out, the only one that may come up. -/
def wpPlan (P : Program) (ops : Array Oper) (Q : Exit → Act → World → Prop) (S : World → Prop) : List (Oper × Bool) → Act → World → Prop
  | [], a, w => Q .normal a w
  | (o, true) :: r, a, w => ∃ v, YieldsIf P ops S o v a ∧ wpPlan P ops Q S r (a.put o.dst v) w
  | (o, false) :: r, a, w =>
    if Region.wanted o (yielded ops a.tmps) then o.wp P a w (fun a' w' => S w' ∧ wpPlan P ops Q S r a' w') Q else wpPlan P ops Q S r (a.put o.dst undef) w

def planB (ops : Array Oper) : List (Nat × Bool) → Array Bool → Bool
  | [], listed => (Region.ready .any ops listed).isEmpty
  | (i, true) :: r, listed => (Region.ready .any ops listed).contains i && Region.free .any ops listed i && planB ops r (listed.setIfInBounds i true)
  | (i, false) :: r, listed => (Region.ready .any ops listed) == [i] && planB ops r (listed.setIfInBounds i true)

def planAll (ops : Array Oper) (σ : List (Nat × Bool)) : Bool :=
  Region.noSelect ops && (σ.length == ops.size) && planB ops σ (Array.replicate ops.size false)

section region
variable {P : Program} {Q : Exit → Act → World → Prop} {S : World → Prop} {l : List Oper}

theorem ready_lt {ops : Array Oper} {listed : Array Bool} {i : Nat} (h : i ∈ Region.ready .any ops listed) : i < ops.size := by
  unfold Region.ready at h
  have := (List.mem_filter.1 h).1
  simpa using this

theorem wpAnyH_plan (hs : Region.noSelect l.toArray = true) : ∀ (σ : List (Nat × Bool)) (listed : Array Bool) (a : Act) (w : World), planB l.toArray σ listed = true → S w →
    wpPlan P l.toArray (NP Q) S (σ.map fun p => (nthO l p.1, p.2)) a w → wpAnyH P .any l.toArray (NP Q) S σ.length listed a w
  | [], listed, a, w, hB, _, h => ⟨by simpa [planB] using hB, h⟩
  | (i, true) :: r, listed, a, w, hB, hS, h => by
    simp only [planB, Bool.and_eq_true] at hB
    obtain ⟨⟨hr, hf⟩, hB'⟩ := hB
    have hm : i ∈ Region.ready .any l.toArray listed := by simpa using hr
    have hi := nthO_spec l i (by simpa using ready_lt hm)
    simp only [List.map_cons, wpPlan] at h
    obtain ⟨v, hy, hk⟩ := h
    exact wpAnyH_take hi hs hf hr (fun _ _ _ hq => hq) hy hS (wpAnyH_plan hs r _ _ _ hB' hS hk)
  | (i, false) :: r, listed, a, w, hB, hS, h => by
    simp only [planB, Bool.and_eq_true, beq_iff_eq] at hB
    obtain ⟨hr, hB'⟩ := hB
    have hm : i ∈ Region.ready .any l.toArray listed := by rw [hr]; simp
    have hi := nthO_spec l i (by simpa using ready_lt hm)
    simp only [List.map_cons, wpPlan] at h
    refine wpAnyH_all hr (by simp) (fun j hj => ?_)
    have hji : j = i := by simpa using hj
    subst hji
    unfold wpOp
    simp only [hi]
    by_cases hw : Region.wanted (nthO l j) (yielded l.toArray a.tmps) = true
    · rw [if_pos hw] at h ⊢
      exact .inl (Oper.wp_mono (fun a' w' hh => ⟨hh.1, wpAnyH_plan hs r _ _ _ hB' hh.1 hh.2⟩) h)
    · rw [if_neg hw] at h ⊢
      exact ⟨hS, wpAnyH_plan hs r _ _ _ hB' hS h⟩

theorem wpList_plan {ops : Array Oper} : ∀ (r : List Oper) (a : Act) (w : World), wpPlan P ops Q (fun _ => True) (r.map (·, false)) a w → wpList P ops Q r a w
  | [], a, w, h => h
  | o :: r, a, w, h => by
    simp only [List.map_cons, wpPlan] at h
    unfold wpList
    by_cases hw : Region.wanted o (yielded ops a.tmps) = true
    · rw [if_pos hw] at h ⊢
      exact .inl (Oper.wp_mono (fun a' w' hh => wpList_plan r a' w' hh.2) h)
    · rw [if_neg hw] at h ⊢
      exact wpList_plan r _ _ h

theorem map_lex : ∀ (l : List Oper) (pre : List Oper), ((List.range' pre.length l.length).map (·, true)).map (fun p : Nat × Bool => (nthO (pre ++ l) p.1, p.2)) = l.map (·, true)
  | [], pre => by simp
  | o :: l, pre => by
    have ih := map_lex l (pre ++ [o])
    simp only [List.length_append, List.length_cons, List.length_nil, Nat.zero_add, List.append_assoc, List.singleton_append] at ih
    have h0 : nthO (pre ++ o :: l) pre.length = o := by
      have := nthO_spec (pre ++ o :: l) pre.length (by simp)
      simpa using this.symm
    rw [List.length_cons, List.range'_succ, List.map_cons, List.map_cons, h0, List.map_cons, ih]

/-- What is known at a point of a region's plan. -/
structure WL (P : Program) (ops : Array Oper) (Q : Exit → Act → World → Prop) (S : World → Prop) (l : List (Oper × Bool)) (n : Nat) (env : Env) (w : World) : Prop where
  out : S w → ∀ a, St n env a → wpPlan P ops (NP Q) S l a w

variable {n : Nat} {env : Env} {w : World}

theorem W.region {id : Nat} (h : WL P l.toArray Q (fun _ => True) (l.map (·, false)) n env w) : W P (.region id l.toArray false) Q n env w :=
  ⟨fun a ha => wp_mono (wp_region_lit (wpList_plan l a w (h.out trivial a ha))) NP.imp⟩

/-- A region that draws: by a plan; S: what holds of the world all along. -/
theorem W.region_p {id : Nat} (σ : List (Nat × Bool)) (S : World → Prop) (hm : P.follows .mixedOrders = true) (hB : planAll l.toArray σ = true) (hS : S w.drew)
    (h : WL P l.toArray Q S (σ.map fun p => (nthO l p.1, p.2)) n env w.drew) : W P (.region id l.toArray true) Q n env w := by
  refine ⟨fun a ha => ?_⟩
  simp only [planAll, Bool.and_eq_true, beq_iff_eq] at hB
  obtain ⟨⟨hs, hl⟩, hB⟩ := hB
  refine wp_mono (wp_region_held (S := S) hm ?_) NP.imp
  rw [← hl]
  have := wpAnyH_plan (Q := Q) hs σ _ a w.drew hB hS (h.out hS a ha)
  rwa [hl] at this ⊢

/-- A region that draws and only reads: in the text's order. -/
theorem W.region_q {id : Nat} (hm : P.follows .mixedOrders = true) (hB : planAll l.toArray ((List.range' 0 l.length).map (·, true)) = true)
    (h : WL P l.toArray Q (fun w' => w' = w.drew) (l.map (·, true)) n env w.drew) : W P (.region id l.toArray true) Q n env w := by
  refine W.region_p ((List.range' 0 l.length).map (·, true)) (fun w' => w' = w.drew) hm hB rfl ?_
  have := map_lex l []
  simp only [List.length_nil, List.nil_append] at this
  rw [this]
  exact h

/-! ### One operation -/
variable {ops : Array Oper} {r : List (Oper × Bool)} {b : Bool} {v : Value}

theorem WL.nil (h : Post Q .normal n env w) : WL P ops Q S [] n env w := ⟨fun _ a ha => h.out a ha⟩
theorem WL.sub {l : List (Oper × Bool)} (env' : Env) (hs : SubL env env') (h : WL P ops Q S l n env' w) : WL P ops Q S l n env w := ⟨fun hS a ha => h.out hS a (ha.sub hs)⟩

/-- The worlds in which a reading operation may find itself. -/
def Cls (b : Bool) (S : World → Prop) (w : World) (w' : World) : Prop :=
  match b with
  | true => S w'
  | false => w' = w

/-- Reads and yields. -/
theorem WL.read {o : Oper} (hg : o.guard = none) (hd : dstOk n o.dst = true) (h : ∀ w', Cls b S w w' → ∀ ρ, Agrees ρ env → (execOp ρ o).run P w' = .ok (.value v) w')
    (k : WL P ops Q S r n (putE o.dst v env) w) : WL P ops Q S ((o, b) :: r) n env w := by
  refine ⟨fun hS a ha => ?_⟩
  have hw : Region.wanted o (yielded ops a.tmps) = true := by simp [Region.wanted, hg]
  have hk := k.out hS _ (ha.put hd v)
  cases b with
  | true => exact ⟨v, .inl ⟨hw, fun w' hS' => h w' hS' _ ha.agrees⟩, hk⟩
  | false =>
    simp only [wpPlan, hw, if_true, Oper.wp, h w rfl _ ha.agrees, Oper.upon]
    exact ⟨hS, hk⟩

theorem WL.pure {o : Oper} (hg : o.guard = none) (hd : dstOk n o.dst = true) (h : ∀ w' ρ, Agrees ρ env → (execOp ρ o).run P w' = .ok (.value v) w')
    (k : WL P ops Q S r n (putE o.dst v env) w) : WL P ops Q S ((o, b) :: r) n env w :=
  WL.read hg hd (fun w' _ ρ hρ => h w' ρ hρ) k

/-- Carried out: the world turns. -/
theorem WL.eff {o : Oper} (hg : o.guard = none) (hd : dstOk n o.dst = true) (R : Value → World → Prop)
    (h : ∀ ρ, Agrees ρ env → ∃ v w', (execOp ρ o).run P w = .ok (.value v) w' ∧ R v w')
    (k : ∀ v w', R v w' → S w' ∧ WL P ops Q S r n (putE o.dst v env) w') : WL P ops Q S ((o, false) :: r) n env w := by
  refine ⟨fun hS a ha => ?_⟩
  have hw : Region.wanted o (yielded ops a.tmps) = true := by simp [Region.wanted, hg]
  obtain ⟨v, w', hrun, hR⟩ := h _ ha.agrees
  obtain ⟨hS', hk⟩ := k v w' hR
  simp only [wpPlan, hw, if_true, Oper.wp, hrun, Oper.upon]
  exact ⟨hS', hk.out hS' _ (ha.put hd v)⟩

/-- Carried out, nothing handed back. -/
theorem WL.eff0 {o : Oper} (hg : o.guard = none) (hd : o.dst = none) (R : World → Prop)
    (h : ∀ ρ, Agrees ρ env → ∃ w', (execOp ρ o).run P w = .ok .skip w' ∧ R w')
    (k : ∀ w', R w' → S w' ∧ WL P ops Q S r n env w') : WL P ops Q S ((o, false) :: r) n env w := by
  refine ⟨fun hS a ha => ?_⟩
  have hw : Region.wanted o (yielded ops a.tmps) = true := by simp [Region.wanted, hg]
  obtain ⟨w', hrun, hR⟩ := h _ ha.agrees
  obtain ⟨hS', hk⟩ := k w' hR
  simp only [wpPlan, hw, if_true, Oper.wp, hrun, Oper.upon, hd, Act.put]
  exact ⟨hS', hk.out hS' _ ha⟩

/-- A call, by its contract. -/
theorem WL.enter {o : Oper} (hg : o.guard = none) (hd : dstOk n o.dst = true) {f : FuncId} {args : Array Value} (R : Ending → World → Prop)
    (h : ∀ ρ, Agrees ρ env → (execOp ρ o).run P w = .ok (.enter f args) w) (hc : Calls P f args w R)
    (hr : ∀ e w', R e w' → ∃ v, e = .returned v)
    (k : ∀ v w', R (.returned v) w' → S w' ∧ WL P ops Q S r n (putE o.dst v env) w') : WL P ops Q S ((o, false) :: r) n env w := by
  refine ⟨fun hS a ha => ?_⟩
  have hw : Region.wanted o (yielded ops a.tmps) = true := by simp [Region.wanted, hg]
  simp only [wpPlan, hw, if_true, Oper.wp, h _ ha.agrees, Oper.upon]
  refine hc.mono fun e w' hR => ?_
  obtain ⟨v, rfl⟩ := hr e w' hR
  obtain ⟨hS', hk⟩ := k v w' hR
  exact ⟨hS', hk.out hS' _ (ha.put hd v)⟩

def boolOf : Value → Option Bool
  | .bool b => some b
  | _ => none

theorem yielded_of {a : Act} (ha : St n env a) {j d : Nat} {u : Value} (hj : (ops[j]?).bind (·.dst) = some d) (hu : look env d = some u) : yielded ops a.tmps j = boolOf u := by
  have := ha.fits d u hu
  simp only [yielded, hj, Option.bind_some, this]
  cases u <;> rfl

/-- A guard that says yes: the operation as if it bore none. -/
theorem WL.want {dst : Option Tmp} {op : Op} {ty : TypeId} {pos : String} {aft : Array Edge} {j d : Nat} {wnt : Bool} (hj : (ops[j]?).bind (·.dst) = some d) (hu : look env d = some (.bool wnt))
    (k : WL P ops Q S (({ dst := dst, op := op, type := ty, pos := pos, after := aft, guard := none }, b) :: r) n env w) :
    WL P ops Q S (({ dst := dst, op := op, type := ty, pos := pos, after := aft, guard := some (j, wnt) }, b) :: r) n env w := by
  refine ⟨fun hS a ha => ?_⟩
  have hw : Region.wanted { dst := dst, op := op, type := ty, pos := pos, after := aft, guard := some (j, wnt) } (yielded ops a.tmps) = true := by
    simp [Region.wanted, yielded_of ha hj hu, boolOf]
  have h0 := k.out hS a ha
  cases b with
  | true =>
    obtain ⟨v, hy, hk⟩ := h0
    refine ⟨v, ?_, hk⟩
    rcases hy with ⟨_, h1⟩ | ⟨h1, _⟩
    · exact .inl ⟨hw, h1⟩
    · simp [Region.wanted] at h1
  | false =>
    simp only [wpPlan] at h0 ⊢
    rw [if_pos (by simp [Region.wanted])] at h0
    rw [if_pos hw]
    exact h0

/-- A guard that says no: nothing is done. -/
theorem WL.skip {dst : Option Tmp} {op : Op} {ty : TypeId} {pos : String} {aft : Array Edge} {j d : Nat} {wnt : Bool} {u : Value} (hj : (ops[j]?).bind (·.dst) = some d) (hu : look env d = some u) (hne : (boolOf u == some wnt) = false)
    (hd : dstOk n dst = true) (k : WL P ops Q S r n (putE dst undef env) w) :
    WL P ops Q S (({ dst := dst, op := op, type := ty, pos := pos, after := aft, guard := some (j, wnt) }, b) :: r) n env w := by
  refine ⟨fun hS a ha => ?_⟩
  have hw : Region.wanted { dst := dst, op := op, type := ty, pos := pos, after := aft, guard := some (j, wnt) } (yielded ops a.tmps) = false := by
    simpa [Region.wanted, yielded_of ha hj hu] using hne
  have h0 := k.out hS _ (ha.put hd undef)
  cases b with
  | true => exact ⟨undef, .inr ⟨hw, rfl⟩, h0⟩
  | false =>
    simp only [wpPlan]
    rw [if_neg (by simp [hw])]
    exact h0
end region

/-! ### What is asked of the types of a program -/
structure PlainTy (P : Program) (t : TypeId) : Prop where
  agg : ∀ w, (isAgg t).run P w = .ok false w
  size : ∀ w, (sizeOf t).run P w = .ok 1 w
structure AggTy (P : Program) (t : TypeId) (k : Nat) : Prop where
  agg : ∀ w, (isAgg t).run P w = .ok true w
  size : ∀ w, (sizeOf t).run P w = .ok k w
structure SliceTy (P : Program) (t e k : Nat) : Prop where
  und : P.underlying t = some (.slice e)
  size : ∀ w, (sizeOf e).run P w = .ok k w
structure ArrTy (P : Program) (t m e k : Nat) : Prop where
  und : P.underlying t = some (.array m e)
  size : ∀ w, (sizeOf e).run P w = .ok k w
structure FieldTy (P : Program) (s f off : Nat) : Prop where
  run : ∀ (w : World) (a : Addr), (Instr.fieldAt s (.pointer (some a)) f).run P w = .ok (.pointer (some (a.add off))) w
structure IntTy (P : Program) (t : TypeId) (k : IntKind) : Prop where
  und : P.underlying t = some (.int k)
structure FnOk (P : Program) (f : FuncId) : Prop where
  run : ∀ (w : World) (args : Array Value), (callFunc f args).run P w = .ok (.enter f args) w

def aggD : TypeDesc → Bool
  | .struct _ | .array _ _ => true
  | _ => false
theorem run_isAgg {P : Program} {t : TypeId} {d : TypeDesc} (h : P.underlying t = some d) (w : World) : (isAgg t).run P w = .ok (aggD d) w := by
  simp only [isAgg, Sem.run_bind, run_underlying h, Result.andThen]
  cases d <;> rfl
theorem run_size {P : Program} {t k : Nat} (h : (P.info? t).map (·.size) = some k) (w : World) : (sizeOf t).run P w = .ok k w := by
  obtain ⟨i, hi, rfl⟩ := Option.map_eq_some_iff.1 h
  simp [sizeOf, typeInfo, hi]
def aggU (P : Program) (t : TypeId) : Option Bool := (P.underlying t).map aggD
theorem PlainTy.of {P : Program} {t : TypeId} (h : aggU P t = some false) (hs : (P.info? t).map (·.size) = some 1) : PlainTy P t := by
  obtain ⟨d, hd, hf⟩ := Option.map_eq_some_iff.1 h
  exact ⟨fun w => by rw [run_isAgg hd, hf], run_size hs⟩
theorem AggTy.of {P : Program} {t k : Nat} (h : aggU P t = some true) (hs : (P.info? t).map (·.size) = some k) : AggTy P t k := by
  obtain ⟨d, hd, hf⟩ := Option.map_eq_some_iff.1 h
  exact ⟨fun w => by rw [run_isAgg hd, hf], run_size hs⟩
theorem FieldTy.of {P : Program} {s f off : Nat} {fs : Array Field} {fd : Field} (h : P.underlying s = some (.struct fs)) (hf : fs[f]? = some fd) (ho : fd.offset = off) (hz : ((P.info? fd.type).map (·.size)).any (0 < ·) = true) : FieldTy P s f off := by
  refine ⟨fun w a => ?_⟩
  cases hi : P.info? fd.type with
  | none => simp [hi] at hz
  | some i =>
    simp [hi] at hz
    have hsz : (sizeOf fd.type).run P w = .ok i.size w := run_size (by simp [hi]) w
    have hne : ¬ i.size = 0 := by omega
    simp [Instr.fieldAt, run_underlying h, hf, Instr.sureAddr, fieldPlace, hsz, hne, ho]
theorem FnOk.of {P : Program} {f : FuncId} {fn : Func} (h : P.funcs[f]? = some fn) (hn : (fn.name == "runtime.NumGoroutine") = false) (hb : fn.body.isNone = false) : FnOk P f := by
  refine ⟨fun w args => ?_⟩
  have hn' : ¬ fn.name = "runtime.NumGoroutine" := by simpa using hn
  have hb' : ¬ fn.body = none := by intro e; simp [e] at hb
  simp [callFunc, h, hn', hb']

theorem add_none (b o n : Nat) : (⟨b, o, none⟩ : Addr).add n = ⟨b, o + n, none⟩ := by
  unfold Addr.add; split
  · rename_i h; subst h; rfl
  · rfl

/-! ### The rules for operations that compute or read -/
section ops
variable {P : Program} {ops : Array Oper} {Q : Exit → Act → World → Prop} {S : World → Prop} {r : List (Oper × Bool)} {b : Bool} {n : Nat} {env : Env} {w : World}
variable {d : Nat} {ty : TypeId} {pos : String} {aft : Array Edge}

theorem WL.move {x : Operand} {v : Value} (hx : ev env x = some v) (hd : Nat.blt d n = true) (k : WL P ops Q S r n ((d, v) :: env) w) :
    WL P ops Q S (({ dst := some d, op := .move x, type := ty, pos := pos, after := aft, guard := none }, b) :: r) n env w :=
  WL.pure rfl hd (v := v) (fun w' ρ hρ => by simp [execOp, hρ x v hx]) k
theorem WL.assign {x : Operand} {v : Value} (hx : ev env x = some v) (hd : Nat.blt d n = true) (k : WL P ops Q S r n ((d, v) :: env) w) :
    WL P ops Q S (({ dst := some d, op := .assign x, type := ty, pos := pos, after := aft, guard := none }, b) :: r) n env w :=
  WL.pure rfl hd (v := v) (fun w' ρ hρ => by simp [execOp, hρ x v hx]) k
theorem WL.pick_t {c x y : Operand} {v : Value} (hc : ev env c = some (.bool true)) (hx : ev env x = some v) (hd : Nat.blt d n = true) (k : WL P ops Q S r n ((d, v) :: env) w) :
    WL P ops Q S (({ dst := some d, op := .pick c x y, type := ty, pos := pos, after := aft, guard := none }, b) :: r) n env w :=
  WL.pure rfl hd (v := v) (fun w' ρ hρ => by simp [execOp, hρ x v hx, hρ c _ hc, asBool]) k
theorem WL.pick_f {c x y : Operand} {v : Value} (hc : ev env c = some (.bool false)) (hy : ev env y = some v) (hd : Nat.blt d n = true) (k : WL P ops Q S r n ((d, v) :: env) w) :
    WL P ops Q S (({ dst := some d, op := .pick c x y, type := ty, pos := pos, after := aft, guard := none }, b) :: r) n env w :=
  WL.pure rfl hd (v := v) (fun w' ρ hρ => by simp [execOp, hρ y v hy, hρ c _ hc, asBool]) k
theorem WL.extract {x : Operand} {i : Nat} {vs : Array Value} {v : Value} (hx : ev env x = some (.tuple vs)) (hv : vs[i]? = some v) (hd : Nat.blt d n = true) (k : WL P ops Q S r n ((d, v) :: env) w) :
    WL P ops Q S (({ dst := some d, op := .extract x i, type := ty, pos := pos, after := aft, guard := none }, b) :: r) n env w :=
  WL.pure rfl hd (v := v) (fun w' ρ hρ => by simp [execOp, hρ x _ hx, Instr.extract, hv]) k
theorem WL.not {x : Operand} {t : TypeId} {c : Bool} (hx : ev env x = some (.bool c)) (hd : Nat.blt d n = true) (k : WL P ops Q S r n ((d, .bool (!c)) :: env) w) :
    WL P ops Q S (({ dst := some d, op := .unOp .not t x, type := ty, pos := pos, after := aft, guard := none }, b) :: r) n env w :=
  WL.pure rfl hd (v := .bool (!c)) (fun w' ρ hρ => by simp [execOp, hρ x _ hx, Op.unary]) k
theorem WL.neg {x : Operand} {t : TypeId} {kd : IntKind} {i : Int} (hx : ev env x = some (.int kd i)) (hd : Nat.blt d n = true) (k : WL P ops Q S r n ((d, .int kd (kd.wrap (0 - i))) :: env) w) :
    WL P ops Q S (({ dst := some d, op := .unOp .neg t x, type := ty, pos := pos, after := aft, guard := none }, b) :: r) n env w :=
  WL.pure rfl hd (v := .int kd (kd.wrap (0 - i))) (fun w' ρ hρ => by simp [execOp, hρ x _ hx, Op.unary, Op.intArith]) k
theorem WL.conv {x : Operand} {s t : TypeId} {kd kd' : IntKind} {i : Int} (hs : IntTy P s kd) (ht : IntTy P t kd') (hx : ev env x = some (.int kd i)) (hd : Nat.blt d n = true) (k : WL P ops Q S r n ((d, .int kd' (kd'.wrap i)) :: env) w) :
    WL P ops Q S (({ dst := some d, op := .convert s t x, type := ty, pos := pos, after := aft, guard := none }, b) :: r) n env w :=
  WL.pure rfl hd (v := .int kd' (kd'.wrap i)) (fun w' ρ hρ => by simp [execOp, hρ x _ hx, convert, run_underlying hs.und, run_underlying ht.und, Conv.intToInt]) k
/-- A conversion that changes nothing. -/
theorem WL.conv' {x : Operand} {s t : TypeId} {kd kd' : IntKind} {i : Int} (hs : IntTy P s kd) (ht : IntTy P t kd') (hx : ev env x = some (.int kd i)) (hw : kd'.wrap i = i) (hd : Nat.blt d n = true) (k : WL P ops Q S r n ((d, .int kd' i) :: env) w) :
    WL P ops Q S (({ dst := some d, op := .convert s t x, type := ty, pos := pos, after := aft, guard := none }, b) :: r) n env w :=
  WL.conv hs ht hx hd (by rw [hw]; exact k)

theorem WL.lenS {x : Operand} {t e kk : TypeId} {a : Option Addr} {m c : Nat} (ht : SliceTy P t e kk) (hx : ev env x = some (.slice a m c)) (hd : Nat.blt d n = true) (k : WL P ops Q S r n ((d, .int .i64 (m : Int)) :: env) w) :
    WL P ops Q S (({ dst := some d, op := .call { callee := .builtin .len, args := #[x], argTypes := #[t] }, type := ty, pos := pos, after := aft, guard := none }, b) :: r) n env w :=
  WL.pure rfl hd (v := .int .i64 (m : Int)) (fun w' ρ hρ => by simp [execOp, resolve, invoke, builtin, hρ x _ hx, Builtin.len_, run_underlying ht.und, goInt]) k
theorem WL.lenStr {x : Operand} {t : TypeId} {s : ByteArray} (ht : P.underlying t = some .string) (hx : ev env x = some (.string s)) (hd : Nat.blt d n = true) (k : WL P ops Q S r n ((d, .int .i64 (s.size : Int)) :: env) w) :
    WL P ops Q S (({ dst := some d, op := .call { callee := .builtin .len, args := #[x], argTypes := #[t] }, type := ty, pos := pos, after := aft, guard := none }, b) :: r) n env w :=
  WL.pure rfl hd (v := .int .i64 (s.size : Int)) (fun w' ρ hρ => by simp [execOp, resolve, invoke, builtin, hρ x _ hx, Builtin.len_, run_underlying ht, goInt]) k
theorem WL.lenArr {x : Operand} {t m e kk : TypeId} {v : Value} (ht : ArrTy P t m e kk) (hx : ev env x = some v) (hd : Nat.blt d n = true) (k : WL P ops Q S r n ((d, .int .i64 (m : Int)) :: env) w) :
    WL P ops Q S (({ dst := some d, op := .call { callee := .builtin .len, args := #[x], argTypes := #[t] }, type := ty, pos := pos, after := aft, guard := none }, b) :: r) n env w :=
  WL.pure rfl hd (v := .int .i64 (m : Int)) (fun w' ρ hρ => by simp [execOp, resolve, invoke, builtin, hρ x _ hx, Builtin.len_, run_underlying ht.und, goInt]) k

/-! #### integers -/
theorem WL.arith {op : BinOp} {t t' : TypeId} {x y : Operand} {kd : IntKind} {i j : Int} {v : Value} (hx : ev env x = some (.int kd i)) (hy : ev env y = some (.int kd j))
    (hop : (match op with | .add | .sub | .mul => true | _ => false) = true) (hv : ∀ w : World, (Op.intArith op kd i j).run P w = .ok v w) (hd : Nat.blt d n = true) (k : WL P ops Q S r n ((d, v) :: env) w) :
    WL P ops Q S (({ dst := some d, op := .binOp op t x y t', type := ty, pos := pos, after := aft, guard := none }, b) :: r) n env w :=
  WL.pure rfl hd (v := v) (fun w' ρ hρ => by
    cases op <;> simp at hop <;> simp [execOp, hρ x _ hx, hρ y _ hy, eqGuard, binOp, hv w']) k
theorem WL.add {t t' : TypeId} {x y : Operand} {kd : IntKind} {i j : Int} (hx : ev env x = some (.int kd i)) (hy : ev env y = some (.int kd j)) (hd : Nat.blt d n = true) (k : WL P ops Q S r n ((d, .int kd (kd.wrap (i + j))) :: env) w) :
    WL P ops Q S (({ dst := some d, op := .binOp .add t x y t', type := ty, pos := pos, after := aft, guard := none }, b) :: r) n env w :=
  WL.arith hx hy rfl (fun w => by simp [Op.intArith]) hd k
theorem WL.sub' {t t' : TypeId} {x y : Operand} {kd : IntKind} {i j : Int} (hx : ev env x = some (.int kd i)) (hy : ev env y = some (.int kd j)) (hd : Nat.blt d n = true) (k : WL P ops Q S r n ((d, .int kd (kd.wrap (i - j))) :: env) w) :
    WL P ops Q S (({ dst := some d, op := .binOp .sub t x y t', type := ty, pos := pos, after := aft, guard := none }, b) :: r) n env w :=
  WL.arith hx hy rfl (fun w => by simp [Op.intArith]) hd k
theorem WL.mul {t t' : TypeId} {x y : Operand} {kd : IntKind} {i j : Int} (hx : ev env x = some (.int kd i)) (hy : ev env y = some (.int kd j)) (hd : Nat.blt d n = true) (k : WL P ops Q S r n ((d, .int kd (kd.wrap (i * j))) :: env) w) :
    WL P ops Q S (({ dst := some d, op := .binOp .mul t x y t', type := ty, pos := pos, after := aft, guard := none }, b) :: r) n env w :=
  WL.arith hx hy rfl (fun w => by simp [Op.intArith]) hd k
theorem i64w {i : Int} (h0 : -9223372036854775808 ≤ i) (h1 : i ≤ 9223372036854775807) : IntKind.i64.wrap i = i := by
  simp [IntKind.wrap, IntKind.bits, IntKind.signed]; omega
theorem u64w {i : Int} (h0 : 0 ≤ i) (h1 : i ≤ 18446744073709551615) : IntKind.u64.wrap i = i := by
  simp [IntKind.wrap, IntKind.bits, IntKind.signed]; omega
theorem u32w {i : Int} (h0 : 0 ≤ i) (h1 : i ≤ 4294967295) : IntKind.u32.wrap i = i := by
  simp [IntKind.wrap, IntKind.bits, IntKind.signed]; omega
theorem u16w {i : Int} (h0 : 0 ≤ i) (h1 : i ≤ 65535) : IntKind.u16.wrap i = i := by
  simp [IntKind.wrap, IntKind.bits, IntKind.signed]; omega
theorem u8w {i : Int} (h0 : 0 ≤ i) (h1 : i ≤ 255) : IntKind.u8.wrap i = i := by
  simp [IntKind.wrap, IntKind.bits, IntKind.signed]; omega
/-- int's own sums, where they do not wrap. -/
theorem WL.addI {t t' : TypeId} {x y : Operand} {i j : Int} (hx : ev env x = some (.int .i64 i)) (hy : ev env y = some (.int .i64 j)) (hb : -9223372036854775808 ≤ i + j ∧ i + j ≤ 9223372036854775807) (hd : Nat.blt d n = true) (k : WL P ops Q S r n ((d, .int .i64 (i + j)) :: env) w) :
    WL P ops Q S (({ dst := some d, op := .binOp .add t x y t', type := ty, pos := pos, after := aft, guard := none }, b) :: r) n env w :=
  WL.add hx hy hd (by rw [i64w hb.1 hb.2]; exact k)
theorem WL.subI {t t' : TypeId} {x y : Operand} {i j : Int} (hx : ev env x = some (.int .i64 i)) (hy : ev env y = some (.int .i64 j)) (hb : -9223372036854775808 ≤ i - j ∧ i - j ≤ 9223372036854775807) (hd : Nat.blt d n = true) (k : WL P ops Q S r n ((d, .int .i64 (i - j)) :: env) w) :
    WL P ops Q S (({ dst := some d, op := .binOp .sub t x y t', type := ty, pos := pos, after := aft, guard := none }, b) :: r) n env w :=
  WL.sub' hx hy hd (by rw [i64w hb.1 hb.2]; exact k)
theorem WL.mulI {t t' : TypeId} {x y : Operand} {i j : Int} (hx : ev env x = some (.int .i64 i)) (hy : ev env y = some (.int .i64 j)) (hb : -9223372036854775808 ≤ i * j ∧ i * j ≤ 9223372036854775807) (hd : Nat.blt d n = true) (k : WL P ops Q S r n ((d, .int .i64 (i * j)) :: env) w) :
    WL P ops Q S (({ dst := some d, op := .binOp .mul t x y t', type := ty, pos := pos, after := aft, guard := none }, b) :: r) n env w :=
  WL.mul hx hy hd (by rw [i64w hb.1 hb.2]; exact k)

theorem WL.cmp {op : BinOp} {t t' : TypeId} {x y : Operand} {kd : IntKind} {i j : Int} {c : Bool} (hx : ev env x = some (.int kd i)) (hy : ev env y = some (.int kd j))
    (hop : (match op with | .eql | .neq | .lss | .leq | .gtr | .geq => true | _ => false) = true) (hv : ∀ w : World, (Op.intCmp op i j).run P w = .ok (.bool c) w) (hd : Nat.blt d n = true) (k : WL P ops Q S r n ((d, .bool c) :: env) w) :
    WL P ops Q S (({ dst := some d, op := .binOp op t x y t', type := ty, pos := pos, after := aft, guard := none }, b) :: r) n env w :=
  WL.pure rfl hd (v := .bool c) (fun w' ρ hρ => by
    cases op <;> simp at hop <;> simp [execOp, hρ x _ hx, hρ y _ hy, eqGuard, binOp, hv w']) k
/-- 'i < j': two ways. -/
theorem WL.lss {t t' : TypeId} {x y : Operand} {kd : IntKind} {i j : Int} (hx : ev env x = some (.int kd i)) (hy : ev env y = some (.int kd j)) (hd : Nat.blt d n = true)
    (kt : i < j → WL P ops Q S r n ((d, .bool true) :: env) w) (kf : j ≤ i → WL P ops Q S r n ((d, .bool false) :: env) w) :
    WL P ops Q S (({ dst := some d, op := .binOp .lss t x y t', type := ty, pos := pos, after := aft, guard := none }, b) :: r) n env w := by
  by_cases h : i < j
  · exact WL.cmp hx hy rfl (fun w => by simp [Op.intCmp, h]) hd (kt h)
  · exact WL.cmp hx hy rfl (fun w => by simp [Op.intCmp, h]) hd (kf (by omega))
theorem WL.gtr {t t' : TypeId} {x y : Operand} {kd : IntKind} {i j : Int} (hx : ev env x = some (.int kd i)) (hy : ev env y = some (.int kd j)) (hd : Nat.blt d n = true)
    (kt : j < i → WL P ops Q S r n ((d, .bool true) :: env) w) (kf : i ≤ j → WL P ops Q S r n ((d, .bool false) :: env) w) :
    WL P ops Q S (({ dst := some d, op := .binOp .gtr t x y t', type := ty, pos := pos, after := aft, guard := none }, b) :: r) n env w := by
  by_cases h : j < i
  · exact WL.cmp hx hy rfl (fun w => by simp [Op.intCmp, h]) hd (kt h)
  · exact WL.cmp hx hy rfl (fun w => by simp [Op.intCmp, h]) hd (kf (by omega))
theorem WL.leq {t t' : TypeId} {x y : Operand} {kd : IntKind} {i j : Int} (hx : ev env x = some (.int kd i)) (hy : ev env y = some (.int kd j)) (hd : Nat.blt d n = true)
    (kt : i ≤ j → WL P ops Q S r n ((d, .bool true) :: env) w) (kf : j < i → WL P ops Q S r n ((d, .bool false) :: env) w) :
    WL P ops Q S (({ dst := some d, op := .binOp .leq t x y t', type := ty, pos := pos, after := aft, guard := none }, b) :: r) n env w := by
  by_cases h : i ≤ j
  · exact WL.cmp hx hy rfl (fun w => by simp [Op.intCmp, h]) hd (kt h)
  · exact WL.cmp hx hy rfl (fun w => by simp [Op.intCmp, h]) hd (kf (by omega))
theorem WL.geq {t t' : TypeId} {x y : Operand} {kd : IntKind} {i j : Int} (hx : ev env x = some (.int kd i)) (hy : ev env y = some (.int kd j)) (hd : Nat.blt d n = true)
    (kt : j ≤ i → WL P ops Q S r n ((d, .bool true) :: env) w) (kf : i < j → WL P ops Q S r n ((d, .bool false) :: env) w) :
    WL P ops Q S (({ dst := some d, op := .binOp .geq t x y t', type := ty, pos := pos, after := aft, guard := none }, b) :: r) n env w := by
  by_cases h : j ≤ i
  · exact WL.cmp hx hy rfl (fun w => by simp [Op.intCmp, h]) hd (kt h)
  · exact WL.cmp hx hy rfl (fun w => by simp [Op.intCmp, h]) hd (kf (by omega))
theorem WL.eqI {t t' : TypeId} {x y : Operand} {kd : IntKind} {i j : Int} (hx : ev env x = some (.int kd i)) (hy : ev env y = some (.int kd j)) (hd : Nat.blt d n = true)
    (kt : i = j → WL P ops Q S r n ((d, .bool true) :: env) w) (kf : i ≠ j → WL P ops Q S r n ((d, .bool false) :: env) w) :
    WL P ops Q S (({ dst := some d, op := .binOp .eql t x y t', type := ty, pos := pos, after := aft, guard := none }, b) :: r) n env w := by
  by_cases h : i = j
  · exact WL.cmp hx hy rfl (fun w => by simp [Op.intCmp, h]) hd (kt h)
  · exact WL.cmp hx hy rfl (fun w => by simp [Op.intCmp, h]) hd (kf h)
theorem WL.neqI {t t' : TypeId} {x y : Operand} {kd : IntKind} {i j : Int} (hx : ev env x = some (.int kd i)) (hy : ev env y = some (.int kd j)) (hd : Nat.blt d n = true)
    (kt : i ≠ j → WL P ops Q S r n ((d, .bool true) :: env) w) (kf : i = j → WL P ops Q S r n ((d, .bool false) :: env) w) :
    WL P ops Q S (({ dst := some d, op := .binOp .neq t x y t', type := ty, pos := pos, after := aft, guard := none }, b) :: r) n env w := by
  by_cases h : i = j
  · exact WL.cmp hx hy rfl (fun w => by simp [Op.intCmp, h]) hd (kf h)
  · exact WL.cmp hx hy rfl (fun w => by simp [Op.intCmp, h]) hd (kt h)
theorem WL.lss_t {t t' : TypeId} {x y : Operand} {kd : IntKind} {i j : Int} (hx : ev env x = some (.int kd i)) (hy : ev env y = some (.int kd j)) (h : i < j) (hd : Nat.blt d n = true) (k : WL P ops Q S r n ((d, .bool true) :: env) w) :
    WL P ops Q S (({ dst := some d, op := .binOp .lss t x y t', type := ty, pos := pos, after := aft, guard := none }, b) :: r) n env w :=
  WL.cmp hx hy rfl (fun w => by simp [Op.intCmp, h]) hd k
theorem WL.lss_f {t t' : TypeId} {x y : Operand} {kd : IntKind} {i j : Int} (hx : ev env x = some (.int kd i)) (hy : ev env y = some (.int kd j)) (h : ¬ i < j) (hd : Nat.blt d n = true) (k : WL P ops Q S r n ((d, .bool false) :: env) w) :
    WL P ops Q S (({ dst := some d, op := .binOp .lss t x y t', type := ty, pos := pos, after := aft, guard := none }, b) :: r) n env w :=
  WL.cmp hx hy rfl (fun w => by simp [Op.intCmp, h]) hd k
theorem WL.gtr_t {t t' : TypeId} {x y : Operand} {kd : IntKind} {i j : Int} (hx : ev env x = some (.int kd i)) (hy : ev env y = some (.int kd j)) (h : j < i) (hd : Nat.blt d n = true) (k : WL P ops Q S r n ((d, .bool true) :: env) w) :
    WL P ops Q S (({ dst := some d, op := .binOp .gtr t x y t', type := ty, pos := pos, after := aft, guard := none }, b) :: r) n env w :=
  WL.cmp hx hy rfl (fun w => by simp [Op.intCmp, h]) hd k
theorem WL.gtr_f {t t' : TypeId} {x y : Operand} {kd : IntKind} {i j : Int} (hx : ev env x = some (.int kd i)) (hy : ev env y = some (.int kd j)) (h : ¬ j < i) (hd : Nat.blt d n = true) (k : WL P ops Q S r n ((d, .bool false) :: env) w) :
    WL P ops Q S (({ dst := some d, op := .binOp .gtr t x y t', type := ty, pos := pos, after := aft, guard := none }, b) :: r) n env w :=
  WL.cmp hx hy rfl (fun w => by simp [Op.intCmp, h]) hd k
theorem WL.leq_t {t t' : TypeId} {x y : Operand} {kd : IntKind} {i j : Int} (hx : ev env x = some (.int kd i)) (hy : ev env y = some (.int kd j)) (h : i ≤ j) (hd : Nat.blt d n = true) (k : WL P ops Q S r n ((d, .bool true) :: env) w) :
    WL P ops Q S (({ dst := some d, op := .binOp .leq t x y t', type := ty, pos := pos, after := aft, guard := none }, b) :: r) n env w :=
  WL.cmp hx hy rfl (fun w => by simp [Op.intCmp, h]) hd k
theorem WL.leq_f {t t' : TypeId} {x y : Operand} {kd : IntKind} {i j : Int} (hx : ev env x = some (.int kd i)) (hy : ev env y = some (.int kd j)) (h : ¬ i ≤ j) (hd : Nat.blt d n = true) (k : WL P ops Q S r n ((d, .bool false) :: env) w) :
    WL P ops Q S (({ dst := some d, op := .binOp .leq t x y t', type := ty, pos := pos, after := aft, guard := none }, b) :: r) n env w :=
  WL.cmp hx hy rfl (fun w => by simp [Op.intCmp, h]) hd k
theorem WL.geq_t {t t' : TypeId} {x y : Operand} {kd : IntKind} {i j : Int} (hx : ev env x = some (.int kd i)) (hy : ev env y = some (.int kd j)) (h : j ≤ i) (hd : Nat.blt d n = true) (k : WL P ops Q S r n ((d, .bool true) :: env) w) :
    WL P ops Q S (({ dst := some d, op := .binOp .geq t x y t', type := ty, pos := pos, after := aft, guard := none }, b) :: r) n env w :=
  WL.cmp hx hy rfl (fun w => by simp [Op.intCmp, h]) hd k
theorem WL.geq_f {t t' : TypeId} {x y : Operand} {kd : IntKind} {i j : Int} (hx : ev env x = some (.int kd i)) (hy : ev env y = some (.int kd j)) (h : ¬ j ≤ i) (hd : Nat.blt d n = true) (k : WL P ops Q S r n ((d, .bool false) :: env) w) :
    WL P ops Q S (({ dst := some d, op := .binOp .geq t x y t', type := ty, pos := pos, after := aft, guard := none }, b) :: r) n env w :=
  WL.cmp hx hy rfl (fun w => by simp [Op.intCmp, h]) hd k
theorem WL.eqI_t {t t' : TypeId} {x y : Operand} {kd : IntKind} {i j : Int} (hx : ev env x = some (.int kd i)) (hy : ev env y = some (.int kd j)) (h : i = j) (hd : Nat.blt d n = true) (k : WL P ops Q S r n ((d, .bool true) :: env) w) :
    WL P ops Q S (({ dst := some d, op := .binOp .eql t x y t', type := ty, pos := pos, after := aft, guard := none }, b) :: r) n env w :=
  WL.cmp hx hy rfl (fun w => by simp [Op.intCmp, h]) hd k
theorem WL.eqI_f {t t' : TypeId} {x y : Operand} {kd : IntKind} {i j : Int} (hx : ev env x = some (.int kd i)) (hy : ev env y = some (.int kd j)) (h : ¬ i = j) (hd : Nat.blt d n = true) (k : WL P ops Q S r n ((d, .bool false) :: env) w) :
    WL P ops Q S (({ dst := some d, op := .binOp .eql t x y t', type := ty, pos := pos, after := aft, guard := none }, b) :: r) n env w :=
  WL.cmp hx hy rfl (fun w => by simp [Op.intCmp, h]) hd k
theorem WL.neqI_t {t t' : TypeId} {x y : Operand} {kd : IntKind} {i j : Int} (hx : ev env x = some (.int kd i)) (hy : ev env y = some (.int kd j)) (h : i ≠ j) (hd : Nat.blt d n = true) (k : WL P ops Q S r n ((d, .bool true) :: env) w) :
    WL P ops Q S (({ dst := some d, op := .binOp .neq t x y t', type := ty, pos := pos, after := aft, guard := none }, b) :: r) n env w :=
  WL.cmp hx hy rfl (fun w => by simp [Op.intCmp, h]) hd k
theorem WL.neqI_f {t t' : TypeId} {x y : Operand} {kd : IntKind} {i j : Int} (hx : ev env x = some (.int kd i)) (hy : ev env y = some (.int kd j)) (h : i = j) (hd : Nat.blt d n = true) (k : WL P ops Q S r n ((d, .bool false) :: env) w) :
    WL P ops Q S (({ dst := some d, op := .binOp .neq t x y t', type := ty, pos := pos, after := aft, guard := none }, b) :: r) n env w :=
  WL.cmp hx hy rfl (fun w => by simp [Op.intCmp, h]) hd k
theorem WL.quo {t t' : TypeId} {x y : Operand} {kd : IntKind} {i j : Int} (hx : ev env x = some (.int kd i)) (hy : ev env y = some (.int kd j)) (hj : j ≠ 0) (hd : Nat.blt d n = true) (k : WL P ops Q S r n ((d, .int kd (kd.wrap (i.tdiv j))) :: env) w) :
    WL P ops Q S (({ dst := some d, op := .binOp .quo t x y t', type := ty, pos := pos, after := aft, guard := none }, b) :: r) n env w :=
  WL.pure rfl hd (v := .int kd (kd.wrap (i.tdiv j))) (fun w' ρ hρ => by
    simp [execOp, hρ x _ hx, hρ y _ hy, eqGuard, binOp, Op.intDiv, hj]) k
theorem WL.shl {t t' : TypeId} {x y : Operand} {kd kd' : IntKind} {i j : Int} (hx : ev env x = some (.int kd i)) (hy : ev env y = some (.int kd' j)) (hj : 0 ≤ j) (hd : Nat.blt d n = true) (k : WL P ops Q S r n ((d, .int kd (kd.wrap (i * 2 ^ (min j.toNat kd.bits)))) :: env) w) :
    WL P ops Q S (({ dst := some d, op := .binOp .shl t x y t', type := ty, pos := pos, after := aft, guard := none }, b) :: r) n env w :=
  WL.pure rfl hd (v := .int kd (kd.wrap (i * 2 ^ (min j.toNat kd.bits)))) (fun w' ρ hρ => by
    have : ¬ j < 0 := by omega
    simp [execOp, hρ x _ hx, hρ y _ hy, eqGuard, binOp, Op.shift, this]) k
theorem WL.shr {t t' : TypeId} {x y : Operand} {kd kd' : IntKind} {i j : Int} (hx : ev env x = some (.int kd i)) (hy : ev env y = some (.int kd' j)) (hj : 0 ≤ j) (hd : Nat.blt d n = true) (k : WL P ops Q S r n ((d, .int kd (i.fdiv (2 ^ (min j.toNat kd.bits)))) :: env) w) :
    WL P ops Q S (({ dst := some d, op := .binOp .shr t x y t', type := ty, pos := pos, after := aft, guard := none }, b) :: r) n env w :=
  WL.pure rfl hd (v := .int kd (i.fdiv (2 ^ (min j.toNat kd.bits)))) (fun w' ρ hρ => by
    have : ¬ j < 0 := by omega
    simp [execOp, hρ x _ hx, hρ y _ hy, eqGuard, binOp, Op.shift, this]) k
theorem WL.andI {t t' : TypeId} {x y : Operand} {kd : IntKind} {i j : Int} (hx : ev env x = some (.int kd i)) (hy : ev env y = some (.int kd j)) (hd : Nat.blt d n = true) (k : WL P ops Q S r n ((d, .int kd (kd.wrap (BitVec.ofInt kd.bits i &&& BitVec.ofInt kd.bits j).toNat)) :: env) w) :
    WL P ops Q S (({ dst := some d, op := .binOp .and t x y t', type := ty, pos := pos, after := aft, guard := none }, b) :: r) n env w :=
  WL.pure rfl hd (v := .int kd (kd.wrap (BitVec.ofInt kd.bits i &&& BitVec.ofInt kd.bits j).toNat)) (fun w' ρ hρ => by
    simp [execOp, hρ x _ hx, hρ y _ hy, eqGuard, binOp, Op.intBits]) k
theorem WL.orI {t t' : TypeId} {x y : Operand} {kd : IntKind} {i j : Int} (hx : ev env x = some (.int kd i)) (hy : ev env y = some (.int kd j)) (hd : Nat.blt d n = true) (k : WL P ops Q S r n ((d, .int kd (kd.wrap (BitVec.ofInt kd.bits i ||| BitVec.ofInt kd.bits j).toNat)) :: env) w) :
    WL P ops Q S (({ dst := some d, op := .binOp .or t x y t', type := ty, pos := pos, after := aft, guard := none }, b) :: r) n env w :=
  WL.pure rfl hd (v := .int kd (kd.wrap (BitVec.ofInt kd.bits i ||| BitVec.ofInt kd.bits j).toNat)) (fun w' ρ hρ => by
    simp [execOp, hρ x _ hx, hρ y _ hy, eqGuard, binOp, Op.intBits]) k
theorem WL.maxI {t t' : TypeId} {x y : Operand} {kd : IntKind} {i j : Int} (hx : ev env x = some (.int kd i)) (hy : ev env y = some (.int kd j)) (hd : Nat.blt d n = true) (k : WL P ops Q S r n ((d, .int kd (max i j)) :: env) w) :
    WL P ops Q S (({ dst := some d, op := .call { callee := .builtin .max, args := #[x, y], argTypes := #[t, t'] }, type := ty, pos := pos, after := aft, guard := none }, b) :: r) n env w :=
  WL.pure rfl hd (v := .int kd (max i j)) (fun w' ρ hρ => by
    have e : max i j = if j > i then j else i := by split <;> omega
    simp [execOp, resolve, invoke, builtin, hρ x _ hx, hρ y _ hy, Builtin.max_, Builtin.max2, e]) k
theorem WL.minI {t t' : TypeId} {x y : Operand} {kd : IntKind} {i j : Int} (hx : ev env x = some (.int kd i)) (hy : ev env y = some (.int kd j)) (hd : Nat.blt d n = true) (k : WL P ops Q S r n ((d, .int kd (min i j)) :: env) w) :
    WL P ops Q S (({ dst := some d, op := .call { callee := .builtin .min, args := #[x, y], argTypes := #[t, t'] }, type := ty, pos := pos, after := aft, guard := none }, b) :: r) n env w :=
  WL.pure rfl hd (v := .int kd (min i j)) (fun w' ρ hρ => by
    have e : min i j = if j < i then j else i := by split <;> omega
    simp [execOp, resolve, invoke, builtin, hρ x _ hx, hρ y _ hy, Builtin.min_, Builtin.min2, e]) k

/-! #### strings, nil -/
theorem WL.lssS {t t' : TypeId} {x y : Operand} {s u : ByteArray} (hx : ev env x = some (.string s)) (hy : ev env y = some (.string u)) (hd : Nat.blt d n = true)
    (kt : Op.bytesLess s.toList u.toList = true → WL P ops Q S r n ((d, .bool true) :: env) w) (kf : Op.bytesLess s.toList u.toList = false → WL P ops Q S r n ((d, .bool false) :: env) w) :
    WL P ops Q S (({ dst := some d, op := .binOp .lss t x y t', type := ty, pos := pos, after := aft, guard := none }, b) :: r) n env w := by
  cases h : Op.bytesLess s.toList u.toList with
  | true => exact WL.pure rfl hd (v := .bool true) (fun w' ρ hρ => by simp [execOp, hρ x _ hx, hρ y _ hy, eqGuard, binOp, Op.stringOp, h]) (kt h)
  | false => exact WL.pure rfl hd (v := .bool false) (fun w' ρ hρ => by simp [execOp, hρ x _ hx, hρ y _ hy, eqGuard, binOp, Op.stringOp, h]) (kf h)
theorem ba_eq {s u : ByteArray} : s.toList = u.toList ↔ s = u := by
  constructor
  · intro h
    cases s; cases u
    simp only [ByteArray.toList_eq] at h
    simpa using h
  · rintro rfl; rfl
theorem WL.eqS {t t' : TypeId} {x y : Operand} {s u : ByteArray} (hx : ev env x = some (.string s)) (hy : ev env y = some (.string u)) (hd : Nat.blt d n = true)
    (kt : s = u → WL P ops Q S r n ((d, .bool true) :: env) w) (kf : s ≠ u → WL P ops Q S r n ((d, .bool false) :: env) w) :
    WL P ops Q S (({ dst := some d, op := .binOp .eql t x y t', type := ty, pos := pos, after := aft, guard := none }, b) :: r) n env w := by
  by_cases h : s = u
  · exact WL.pure rfl hd (v := .bool true) (fun w' ρ hρ => by simp [execOp, hρ x _ hx, hρ y _ hy, eqGuard, binOp, Op.stringOp, h]) (kt h)
  · have h' : ¬ s.toList = u.toList := fun e => h (ba_eq.1 e)
    exact WL.pure rfl hd (v := .bool false) (fun w' ρ hρ => by simp [execOp, hρ x _ hx, hρ y _ hy, eqGuard, binOp, Op.stringOp, h']) (kf h)
theorem WL.neqS {t t' : TypeId} {x y : Operand} {s u : ByteArray} (hx : ev env x = some (.string s)) (hy : ev env y = some (.string u)) (hd : Nat.blt d n = true)
    (kt : s ≠ u → WL P ops Q S r n ((d, .bool true) :: env) w) (kf : s = u → WL P ops Q S r n ((d, .bool false) :: env) w) :
    WL P ops Q S (({ dst := some d, op := .binOp .neq t x y t', type := ty, pos := pos, after := aft, guard := none }, b) :: r) n env w := by
  by_cases h : s = u
  · exact WL.pure rfl hd (v := .bool false) (fun w' ρ hρ => by simp [execOp, hρ x _ hx, hρ y _ hy, eqGuard, binOp, Op.stringOp, h]) (kf h)
  · have h' : ¬ s.toList = u.toList := fun e => h (ba_eq.1 e)
    exact WL.pure rfl hd (v := .bool true) (fun w' ρ hρ => by simp [execOp, hρ x _ hx, hρ y _ hy, eqGuard, binOp, Op.stringOp, h']) (kt h)
theorem run_equal_bool {t : TypeId} (ht : P.underlying t = some .bool) (i j : Bool) (w : World) : (Op.equal t (.bool i) (.bool j)).run P w = .ok (i == j) w := by
  have h : ∀ dp, (Op.equalIn (dp + 1) t (.bool i) (.bool j)).run P w = .ok (i == j) w := fun dp => by
    simp [Op.equalIn, run_underlying ht]
  exact h 9999
theorem WL.eqB {t t' : TypeId} {x y : Operand} {i j : Bool} (ht : P.underlying t = some .bool) (hx : ev env x = some (.bool i)) (hy : ev env y = some (.bool j)) (hd : Nat.blt d n = true) (k : WL P ops Q S r n ((d, .bool (i == j)) :: env) w) :
    WL P ops Q S (({ dst := some d, op := .binOp .eql t x y t', type := ty, pos := pos, after := aft, guard := none }, b) :: r) n env w :=
  WL.pure rfl hd (v := .bool (i == j)) (fun w' ρ hρ => by simp [execOp, hρ x _ hx, hρ y _ hy, eqGuard, binOp, run_equal_bool ht]) k
theorem WL.neqB {t t' : TypeId} {x y : Operand} {i j : Bool} (ht : P.underlying t = some .bool) (hx : ev env x = some (.bool i)) (hy : ev env y = some (.bool j)) (hd : Nat.blt d n = true) (k : WL P ops Q S r n ((d, .bool (i != j)) :: env) w) :
    WL P ops Q S (({ dst := some d, op := .binOp .neq t x y t', type := ty, pos := pos, after := aft, guard := none }, b) :: r) n env w :=
  WL.pure rfl hd (v := .bool (i != j)) (fun w' ρ hρ => by
    simp [execOp, hρ x _ hx, hρ y _ hy, eqGuard, binOp, run_equal_bool ht]; cases i <;> cases j <;> rfl) k
theorem run_eq_nilS {t e : TypeId} (ht : P.underlying t = some (.slice e)) (a : Option Addr) (m c : Nat) (w : World) : (Op.equal t (.slice a m c) (.slice none 0 0)).run P w = .ok a.isNone w := by
  have h : ∀ dp, (Op.equalIn (dp + 1) t (.slice a m c) (.slice none 0 0)).run P w = .ok a.isNone w := fun dp => by
    cases a <;> simp [Op.equalIn, run_underlying ht]
  exact h 9999
theorem WL.eqNilS {t t' e kk : TypeId} {x : Operand} {a : Option Addr} {m c : Nat} (ht : SliceTy P t e kk) (hx : ev env x = some (.slice a m c)) (hd : Nat.blt d n = true) (k : WL P ops Q S r n ((d, .bool a.isNone) :: env) w) :
    WL P ops Q S (({ dst := some d, op := .binOp .eql t x (.const (.slice none 0 0)) t', type := ty, pos := pos, after := aft, guard := none }, b) :: r) n env w :=
  WL.pure rfl hd (v := .bool a.isNone) (fun w' ρ hρ => by simp [execOp, hρ x _ hx, hρ (.const (.slice none 0 0)) _ rfl, eqGuard, binOp, run_eq_nilS ht.und]) k
theorem WL.neqNilS {t t' e kk : TypeId} {x : Operand} {a : Option Addr} {m c : Nat} (ht : SliceTy P t e kk) (hx : ev env x = some (.slice a m c)) (hd : Nat.blt d n = true) (k : WL P ops Q S r n ((d, .bool (!a.isNone)) :: env) w) :
    WL P ops Q S (({ dst := some d, op := .binOp .neq t x (.const (.slice none 0 0)) t', type := ty, pos := pos, after := aft, guard := none }, b) :: r) n env w :=
  WL.pure rfl hd (v := .bool (!a.isNone)) (fun w' ρ hρ => by simp [execOp, hρ x _ hx, hρ (.const (.slice none 0 0)) _ rfl, eqGuard, binOp, run_eq_nilS ht.und]) k

/-! #### addresses -/
theorem WL.fieldAddr {s f off : Nat} {x : Operand} {bk o : Nat} (hf : FieldTy P s f off) (hx : ev env x = some (.pointer (some ⟨bk, o, none⟩))) (hd : Nat.blt d n = true) (k : WL P ops Q S r n ((d, .pointer (some ⟨bk, o + off, none⟩)) :: env) w) :
    WL P ops Q S (({ dst := some d, op := .fieldAddr s x f, type := ty, pos := pos, after := aft, guard := none }, b) :: r) n env w :=
  WL.pure rfl hd (v := .pointer (some ⟨bk, o + off, none⟩)) (fun w' ρ hρ => by simp [execOp, hρ x _ hx, hf.run, add_none]) k
theorem WL.indexS {t e kk : Nat} {x ix : Operand} {bk o m c : Nat} {kd : IntKind} {i : Int} (ht : SliceTy P t e kk) (hx : ev env x = some (.slice (some ⟨bk, o, none⟩) m c)) (hi : ev env ix = some (.int kd i)) (hb : 0 ≤ i ∧ i < (m : Int)) (hd : Nat.blt d n = true)
    (k : WL P ops Q S r n ((d, .pointer (some ⟨bk, o + i.toNat * kk, none⟩)) :: env) w) :
    WL P ops Q S (({ dst := some d, op := .indexAddr t x ix, type := ty, pos := pos, after := aft, guard := none }, b) :: r) n env w :=
  WL.pure rfl hd (v := .pointer (some ⟨bk, o + i.toNat * kk, none⟩)) (fun w' ρ hρ => by
    simp [execOp, hρ x _ hx, hρ ix _ hi, Instr.indexAt, asIntOf, run_underlying ht.und, hb.1, hb.2, ht.size, add_none]) k
theorem WL.indexA {t mm e kk : Nat} {x ix : Operand} {bk o : Nat} {kd : IntKind} {i : Int} (ht : ArrTy P t mm e kk) (hx : ev env x = some (.pointer (some ⟨bk, o, none⟩))) (hi : ev env ix = some (.int kd i)) (hb : 0 ≤ i ∧ i < (mm : Int)) (hd : Nat.blt d n = true)
    (k : WL P ops Q S r n ((d, .pointer (some ⟨bk, o + i.toNat * kk, none⟩)) :: env) w) :
    WL P ops Q S (({ dst := some d, op := .indexAddr t x ix, type := ty, pos := pos, after := aft, guard := none }, b) :: r) n env w :=
  WL.pure rfl hd (v := .pointer (some ⟨bk, o + i.toNat * kk, none⟩)) (fun w' ρ hρ => by
    simp [execOp, hρ x _ hx, hρ ix _ hi, Instr.indexAt, asIntOf, Instr.sureAddr, run_underlying ht.und, hb.1, hb.2, ht.size, add_none]) k
theorem WL.nilCheck {x : Operand} {a : Addr} (hx : ev env x = some (.pointer (some a))) (hd : Nat.blt d n = true) (k : WL P ops Q S r n ((d, .pointer (some a)) :: env) w) :
    WL P ops Q S (({ dst := some d, op := .nilCheck x, type := ty, pos := pos, after := aft, guard := none }, b) :: r) n env w :=
  WL.pure rfl hd (v := .pointer (some a)) (fun w' ρ hρ => by simp [execOp, hρ x _ hx]) k
/-- 's[i:]' of a slice that is not nil. -/
theorem WL.sliceL {t e kk : Nat} {x lo : Operand} {bk o m c : Nat} {kd : IntKind} {i : Int} (ht : SliceTy P t e kk) (hx : ev env x = some (.slice (some ⟨bk, o, none⟩) m c)) (hi : ev env lo = some (.int kd i)) (hb : 0 ≤ i ∧ i ≤ (m : Int)) (hd : Nat.blt d n = true)
    (k : WL P ops Q S r n ((d, .slice (some ⟨bk, if c = i.toNat then o else o + i.toNat * kk, none⟩) (m - i.toNat) (c - i.toNat)) :: env) w) :
    WL P ops Q S (({ dst := some d, op := .slice t x (some lo) none none, type := ty, pos := pos, after := aft, guard := none }, b) :: r) n env w :=
  WL.pure rfl hd (v := .slice (some ⟨bk, if c = i.toNat then o else o + i.toNat * kk, none⟩) (m - i.toNat) (c - i.toNat)) (fun w' ρ hρ => by
    by_cases hc : c = i.toNat <;>
    simp [execOp, hρ x _ hx, hρ lo _ hi, Instr.sliceAt, Instr.slice, Instr.sliceBounds, Instr.sliceBound, asIntOf, run_underlying ht.und, hb.1, hb.2, ht.size, add_none, hc]) k

/-! #### loads -/
theorem at_ {p : World → Prop} {w : World} (h : p w) : ∀ w', w' = w → p w' := fun _ e => e ▸ h
theorem WL.loadC {t : TypeId} {x : Operand} {bk o o' : Nat} {v : Value} (ht : PlainTy P t) (hx : ev env x = some (.pointer (some ⟨bk, o, none⟩)))
    (hc : ∀ w', Cls b S w w' → w'.cell? ⟨bk, o', none⟩ = some v) (ho : o = o') (hd : Nat.blt d n = true) (k : WL P ops Q S r n ((d, v) :: env) w) :
    WL P ops Q S (({ dst := some d, op := .load t x, type := ty, pos := pos, after := aft, guard := none }, b) :: r) n env w := by
  subst ho
  exact WL.read rfl hd (v := v) (fun w' hw' ρ hρ => by simp [execOp, hρ x _ hx, Instr.loadAt, Instr.sureAddr, loadVar, ht.agg, hc w' hw']) k
/-- A load in the one world. -/
theorem WL.load {t : TypeId} {x : Operand} {bk o o' : Nat} {v : Value} (ht : PlainTy P t) (hx : ev env x = some (.pointer (some ⟨bk, o, none⟩)))
    (hE : ∀ w', Cls b S w w' → w' = w) (hc : w.cell? ⟨bk, o', none⟩ = some v) (ho : o = o') (hd : Nat.blt d n = true) (k : WL P ops Q S r n ((d, v) :: env) w) :
    WL P ops Q S (({ dst := some d, op := .load t x, type := ty, pos := pos, after := aft, guard := none }, b) :: r) n env w :=
  WL.loadC ht hx (fun w' hw' => by rw [hE w' hw']; exact hc) ho hd k
theorem WL.loadAggC {t kk : TypeId} {x : Operand} {bk o o' : Nat} {cs : List Value} (ht : AggTy P t kk) (hx : ev env x = some (.pointer (some ⟨bk, o, none⟩))) (hk : cs.length = kk)
    (hc : ∀ w', Cls b S w w' → ∀ j v, cs[j]? = some v → w'.cell? ⟨bk, o' + j, none⟩ = some v) (ho : o = o') (hd : Nat.blt d n = true) (k : WL P ops Q S r n ((d, .agg cs.toArray) :: env) w) :
    WL P ops Q S (({ dst := some d, op := .load t x, type := ty, pos := pos, after := aft, guard := none }, b) :: r) n env w := by
  subst ho
  exact WL.read rfl hd (v := .agg cs.toArray) (fun w' hw' ρ hρ => by
    have := run_loadCells_list (P := P) w' ⟨bk, o, none⟩ cs (fun j v hv => by rw [add_none]; exact hc w' hw' j v hv)
    rw [hk] at this
    simp [execOp, hρ x _ hx, Instr.loadAt, Instr.sureAddr, loadVar, ht.agg, ht.size, this]) k
theorem WL.loadAgg {t kk : TypeId} {x : Operand} {bk o o' : Nat} {cs : List Value} (ht : AggTy P t kk) (hx : ev env x = some (.pointer (some ⟨bk, o, none⟩))) (hk : cs.length = kk)
    (hE : ∀ w', Cls b S w w' → w' = w) (hc : ∀ j v, cs[j]? = some v → w.cell? ⟨bk, o' + j, none⟩ = some v) (ho : o = o') (hd : Nat.blt d n = true) (k : WL P ops Q S r n ((d, .agg cs.toArray) :: env) w) :
    WL P ops Q S (({ dst := some d, op := .load t x, type := ty, pos := pos, after := aft, guard := none }, b) :: r) n env w :=
  WL.loadAggC ht hx hk (fun w' hw' => by rw [hE w' hw']; exact hc) ho hd k

/-! #### calls -/
theorem WL.call {f : FuncId} {args : Array Operand} {vs : Array Value} {ts : Array TypeId} (R : Ending → World → Prop) (hf : FnOk P f) (ha : ∀ ρ, Agrees ρ env → args.map ρ = vs) (hc : Calls P f vs w R)
    (hr : ∀ e w', R e w' → ∃ v, e = .returned v) (hd : Nat.blt d n = true)
    (k : ∀ v w', R (.returned v) w' → S w' ∧ WL P ops Q S r n ((d, v) :: env) w') :
    WL P ops Q S (({ dst := some d, op := .call { callee := .value (.func f), args := args, argTypes := ts }, type := ty, pos := pos, after := aft, guard := none }, false) :: r) n env w :=
  WL.enter rfl hd R (fun ρ hρ => by simp [execOp, resolve, hρ (.func f) _ rfl, Deferred.ofValue, invoke, ha ρ hρ, hf.run]) hc hr k
theorem args1 {x : Operand} {v : Value} (hx : ev env x = some v) : ∀ ρ, Agrees ρ env → (#[x].map ρ) = #[v] := fun ρ hρ => by simp [hρ x v hx]
theorem args2 {x y : Operand} {v u : Value} (hx : ev env x = some v) (hy : ev env y = some u) : ∀ ρ, Agrees ρ env → (#[x, y].map ρ) = #[v, u] := fun ρ hρ => by simp [hρ x v hx, hρ y u hy]
theorem args3 {x y z : Operand} {v u t : Value} (hx : ev env x = some v) (hy : ev env y = some u) (hz : ev env z = some t) : ∀ ρ, Agrees ρ env → (#[x, y, z].map ρ) = #[v, u, t] := fun ρ hρ => by simp [hρ x v hx, hρ y u hy, hρ z t hz]
end ops

/-! ### Functions -/
def SubA (tmps : Array Value) : Env → Prop
  | [] => True
  | (t, v) :: r => tmps[t]? = some v ∧ SubA tmps r
theorem SubA.look {tmps : Array Value} : ∀ {env : Env}, SubA tmps env → ∀ t v, Lx.look env t = some v → tmps[t]? = some v
  | [], _, t, v, h => by simp [Lx.look] at h
  | (k, u) :: r, hs, t, v, h => by
    simp only [Lx.look] at h
    by_cases e : k = t
    · subst e
      simp only [Nat.beq_refl, cond_true, Option.some.injEq] at h
      subst h
      exact hs.1
    · have : Nat.beq k t = false := by
        rw [Bool.eq_false_iff]; intro hb; exact e (Nat.eq_of_beq_eq_true hb)
      rw [this, cond_false] at h
      exact SubA.look hs.2 t v h
def argsEnv : Nat → List Value → Env
  | _, [] => []
  | i, v :: r => (i, v) :: argsEnv (i + 1) r
theorem subA_args (rest : Array Value) : ∀ (l pre : List Value), SubA ((pre ++ l).toArray ++ rest) (argsEnv pre.length l)
  | [], _ => trivial
  | v :: l, pre => by
    have ih := subA_args rest l (pre ++ [v])
    simp only [List.append_assoc, List.singleton_append, List.length_append, List.length_cons, List.length_nil, Nat.zero_add] at ih
    exact ⟨by rw [Array.getElem?_append_left (by simp)]; simp, ih⟩
theorem Calls.of_W {P : Program} {f : FuncId} {fn : Func} {c : Code} {args : List Value} {w : World} {R : Ending → World → Prop} {n : Nat}
    (hf : P.funcs[f]? = some fn) (hb : fn.body = some c) (hn : fn.ntmps = n) (hl : Nat.ble args.length n = true) (h : W P c (bodyPost P fn R) n (argsEnv 0 args) w) : Calls P f args.toArray w R := by
  refine calls_of_wp hf hb (h.out _ ⟨?_, rfl, ?_⟩)
  · have := Nat.le_of_ble_eq_true hl
    simp [hn]; omega
  · intro t v ht
    have := subA_args (Array.replicate (fn.ntmps - args.toArray.size) undef) args []
    simp only [List.nil_append, List.length_nil] at this
    exact this.look t v ht
theorem Post.ret1 {P : Program} {fn : Func} {R : Ending → World → Prop} {t n : Nat} {env : Env} {w : World} {v : Value} (hr : fn.results = #[.tmp t]) (hv : look env t = some v) (h : R (.returned v) w) : Post (bodyPost P fn R) .ret n env w := by
  refine ⟨fun a ha => bodyPost_ret (results_tmp hr _ _ _) ha.defers ?_⟩
  have := ha.fits t v hv
  have e : a.tmps.getD t undef = v := by simp [this]
  rw [e]; exact h
theorem Post.ret2 {P : Program} {fn : Func} {R : Ending → World → Prop} {t u n : Nat} {env : Env} {w : World} {v v' : Value} (hr : fn.results = #[.tmp t, .tmp u]) (hv : look env t = some v) (hv' : look env u = some v') (h : R (.returned (.tuple #[v, v'])) w) : Post (bodyPost P fn R) .ret n env w := by
  refine ⟨fun a ha => bodyPost_ret (results_tmp2 hr _ _ _) ha.defers ?_⟩
  have h1 := ha.fits t v hv
  have h2 := ha.fits u v' hv'
  have e : a.tmps.getD t undef = v := by simp [h1]
  have e' : a.tmps.getD u undef = v' := by simp [h2]
  rw [e, e']; exact h
theorem Post.end0 {P : Program} {fn : Func} {R : Ending → World → Prop} {n : Nat} {env : Env} {w : World} (hr : fn.results = #[]) (h : R (.returned (.tuple #[])) w) : Post (bodyPost P fn R) .normal n env w :=
  ⟨fun _ ha => bodyPost_end (results_none hr _ _ _) ha.defers h⟩
theorem Post.ret0 {P : Program} {fn : Func} {R : Ending → World → Prop} {n : Nat} {env : Env} {w : World} (hr : fn.results = #[]) (h : R (.returned (.tuple #[])) w) : Post (bodyPost P fn R) .ret n env w :=
  ⟨fun _ ha => bodyPost_ret (results_none hr _ _ _) ha.defers h⟩

/-! ### Memory -/
/-- What was there stays as it was. -/
def Up (w w' : World) : Prop := Below w.heap.size w w'
theorem Up.refl (w : World) : Up w w := Below.refl _ _
theorem Up.trans {a b c : World} (h : Up a b) (k : Up b c) : Up a c := Below.trans h (Below.mono k h.size)
theorem Up.drew (w : World) : Up w w.drew := (Below.refl _ _).drew
theorem Up.size {w w' : World} (h : Up w w') : w.heap.size ≤ w'.heap.size := Below.size h
theorem Up.block {w w' : World} (h : Up w w') {k : Nat} (hk : k < w.heap.size) : w'.heap[k]? = w.heap[k]? := Below.block h k hk
theorem Up.cell {w w' : World} (h : Up w w') {p : Addr} {v : Value} (hc : w.cell? p = some v) : w'.cell? p = some v := by
  rw [Below.cell h (World.block_lt_of_cell? w p hc)]; exact hc
theorem Up.grown {w w' : World} (h : w.grownBy w' none) : Up w w' := ⟨h.os, h.tape, h.output, h.size, fun k hk => h.block k hk (by simp)⟩
/-- A step that turns one block which is not among the old ones. -/
theorem Up.step {a w w' : World} {row : Option Nat} (h : Up a w) (hg : w.grownBy w' row) (hr : ∀ k, row = some k → a.heap.size ≤ k) : Up a w' :=
  Below.grown h hg h.size hr

/-- A row of cells. -/
def Row (w : World) (g : Nat) (cs : List Value) (t : TypeId) : Prop := w.heap[g]? = some (.cells cs.toArray t (0, 0))
theorem Row.lt {w : World} {g : Nat} {cs : List Value} {t : TypeId} (h : Row w g cs t) : g < w.heap.size := (Array.getElem?_eq_some_iff.1 h).1
theorem Row.cell {w : World} {g : Nat} {cs : List Value} {t : TypeId} (h : Row w g cs t) {i : Nat} {v : Value} (hv : cs[i]? = some v) : w.cell? ⟨g, i, none⟩ = some v := by
  unfold Row at h
  simp [World.cell?, h, hv]
theorem Row.up {w w' : World} {g : Nat} {cs : List Value} {t : TypeId} (h : Row w g cs t) (hu : Up w w') : Row w' g cs t := by
  unfold Row; rw [hu.block h.lt]; exact h
theorem Row.kept {w w' : World} {g : Nat} {cs : List Value} {t : TypeId} {row : Option Nat} (h : Row w g cs t) (hg : w.grownBy w' row) (hne : row ≠ some g) : Row w' g cs t := by
  unfold Row; rw [hg.block g h.lt (fun e => hne e.symm)]; exact h
theorem grown_drew (w : World) : w.grownBy w.drew none := ⟨rfl, rfl, rfl, Nat.le_refl _, fun _ _ _ => rfl⟩
theorem grown_refl (w : World) (row : Option Nat) : w.grownBy w row := ⟨rfl, rfl, rfl, Nat.le_refl _, fun _ _ _ => rfl⟩
theorem grown_weak {w w' : World} {row : Option Nat} (h : w.grownBy w' none) : w.grownBy w' row := ⟨h.os, h.tape, h.output, h.size, fun k hk _ => h.block k hk (by simp)⟩

def spl (L : List Value) (off : Nat) (cs : List Value) : List Value := L.take off ++ cs ++ L.drop (off + cs.length)
theorem spl_length (L : List Value) (off : Nat) (cs : List Value) (h : off + cs.length ≤ L.length) : (spl L off cs).length = L.length := by
  simp [spl]; omega
theorem spl_lt (L : List Value) (off : Nat) (cs : List Value) (h : off + cs.length ≤ L.length) {i : Nat} (hi : i < off) : (spl L off cs)[i]? = L[i]? := by
  simp only [spl, List.append_assoc]
  rw [List.getElem?_append_left (by simp; omega), List.getElem?_take_of_lt hi]
theorem spl_in (L : List Value) (off : Nat) (cs : List Value) (h : off + cs.length ≤ L.length) {i : Nat} (hi : i < cs.length) : (spl L off cs)[off + i]? = cs[i]? := by
  have hl : (L.take off).length = off := by simp; omega
  simp only [spl, List.append_assoc]
  rw [List.getElem?_append_right (by omega), hl, show off + i - off = i by omega, List.getElem?_append_left hi]
theorem spl_ge (L : List Value) (off : Nat) (cs : List Value) (h : off + cs.length ≤ L.length) {i : Nat} (hi : off + cs.length ≤ i) : (spl L off cs)[i]? = L[i]? := by
  have hl : (L.take off ++ cs).length = off + cs.length := by simp; omega
  simp only [spl]
  rw [List.getElem?_append_right (by omega), hl, List.getElem?_drop]
  congr 1; omega

structure ZeroTy (P : Program) (t : TypeId) (cs : List Value) : Prop where
  run : ∀ w, ∃ z, (zeroValue t).run P w = .ok z w ∧ z.cells = cs.toArray
theorem ZeroTy.of {P : Program} {t : TypeId} {z : Value} {cs : List Value} (h : (P.info? t).map (·.zero) = some (some z)) (hc : z.cells = cs.toArray) : ZeroTy P t cs := by
  obtain ⟨i, hi, hz⟩ := Option.map_eq_some_iff.1 h
  exact ⟨fun w => ⟨z, by simp [zeroValue, typeInfo, hi, hz], hc⟩⟩
/-- What is asked of an element type of which slices are made. -/
structure MakeTy (P : Program) (t e k bytes : Nat) (zs : List Value) : Prop where
  und : P.underlying t = some (.slice e)
  inf : ∃ i z, P.info? e = some i ∧ i.zero = some z ∧ i.size = k ∧ i.bytes = bytes ∧ z.cells = zs.toArray ∧ zs.length = k ∧ 0 < k
def infoOf (P : Program) (e : TypeId) : Option (Nat × Nat) := (P.info? e).map fun i => (i.size, i.bytes)
theorem MakeTy.of {P : Program} {t e k bytes : Nat} {z : Value} {zs : List Value} (hu : P.underlying t = some (.slice e)) (hz : (P.info? e).map (·.zero) = some (some z)) (hi : infoOf P e = some (k, bytes))
    (hc : z.cells = zs.toArray) (hl : zs.length = k) (h0 : 0 < k) : MakeTy P t e k bytes zs := by
  obtain ⟨i, h1, h2⟩ := Option.map_eq_some_iff.1 hz
  simp only [infoOf, h1, Option.map_some, Option.some.injEq, Prod.mk.injEq] at hi
  exact ⟨hu, i, z, h1, h2, hi.1, hi.2, hc, hl, h0⟩

section effects
variable {P : Program} {ops : Array Oper} {Q : Exit → Act → World → Prop} {S : World → Prop} {r : List (Oper × Bool)} {b : Bool} {n : Nat} {env : Env} {w : World}
variable {d : Nat} {ty : TypeId} {pos : String} {aft : Array Edge}

theorem row_alloc (w : World) (cs : List Value) (t : TypeId) : Row (w.alloc (.cells cs.toArray t)) w.heap.size cs t := by
  unfold Row; exact heap_alloc_new w _

theorem WL.alloc {t : TypeId} {cs : List Value} (hz : ZeroTy P t cs) (hd : Nat.blt d n = true)
    (k : ∀ w1, w.grownBy w1 none → w1.heap.size = w.heap.size + 1 → Row w1 w.heap.size cs t → S w1 ∧ WL P ops Q S r n ((d, .pointer (some ⟨w.heap.size, 0, none⟩)) :: env) w1) :
    WL P ops Q S (({ dst := some d, op := .alloc t, type := ty, pos := pos, after := aft, guard := none }, false) :: r) n env w := by
  refine WL.eff rfl hd (fun v w1 => v = .pointer (some ⟨w.heap.size, 0, none⟩) ∧ w1 = w.alloc (.cells cs.toArray t)) (fun ρ _ => ?_) ?_
  · obtain ⟨z, hz1, hz2⟩ := hz.run w
    refine ⟨_, _, ?_, rfl, rfl⟩
    simp [execOp, Instr.alloc, hz1, newVar, newRow, hz2]
  · rintro v w1 ⟨rfl, rfl⟩
    exact k _ (World.grownBy_alloc w _ none) (by simp) (row_alloc w cs t)

theorem WL.box {t : TypeId} {x : Operand} {v : Value} {cs : List Value} (hx : ev env x = some v) (hc : v.cells = cs.toArray) (hd : Nat.blt d n = true)
    (k : ∀ w1, w.grownBy w1 none → w1.heap.size = w.heap.size + 1 → Row w1 w.heap.size cs t → S w1 ∧ WL P ops Q S r n ((d, .pointer (some ⟨w.heap.size, 0, none⟩)) :: env) w1) :
    WL P ops Q S (({ dst := some d, op := .box t x, type := ty, pos := pos, after := aft, guard := none }, false) :: r) n env w := by
  refine WL.eff rfl hd (fun v w1 => v = .pointer (some ⟨w.heap.size, 0, none⟩) ∧ w1 = w.alloc (.cells cs.toArray t)) (fun ρ hρ => ?_) ?_
  · refine ⟨_, _, ?_, rfl, rfl⟩
    simp [execOp, Instr.box, newVar, newRow, hρ x _ hx, hc]
  · rintro v w1 ⟨rfl, rfl⟩
    exact k _ (World.grownBy_alloc w _ none) (by simp) (row_alloc w cs t)

theorem setRow_grown {w : World} {g : Nat} (cs : Array Value) : w.grownBy (w.setRow g cs) (some g) :=
  ⟨rfl, rfl, rfl, by simp [World.setRow], fun k _ hk => setRow_other w g k _ (fun e => hk (by rw [e]))⟩

/-- A store of whatever size into a row that is known. -/
theorem WL.storeV {t kk : TypeId} {x y : Operand} {g o o' : Nat} {cs vs : List Value} {v : Value} {tt : TypeId} (hs : ∀ w, (sizeOf t).run P w = .ok kk w) (hx : ev env x = some (.pointer (some ⟨g, o, none⟩))) (hy : ev env y = some v)
    (hv : v.cells = vs.toArray) (hk : vs.length = kk) (h1 : ∀ u ∈ vs, u.oneCell' = true) (hr : Row w g cs tt) (ho : o = o') (hf : o' + vs.length ≤ cs.length)
    (k : ∀ w1, w.grownBy w1 (some g) → w1.heap.size = w.heap.size → Row w1 g (spl cs o' vs) tt → S w1 ∧ WL P ops Q S r n env w1) :
    WL P ops Q S (({ dst := none, op := .store t x y, type := ty, pos := pos, after := aft, guard := none }, false) :: r) n env w := by
  subst ho
  refine WL.eff0 rfl rfl (fun w1 => w1 = w.setRow g (spl cs o vs).toArray) (fun ρ hρ => ⟨_, ?_, rfl⟩) ?_
  · have hst := run_storeCells_at P g o tt vs 0 cs.toArray w hr (by simpa using hf) h1
    simp only [Nat.add_zero] at hst
    have e : vs.length = kk := hk
    simp [execOp, Instr.storeAt, Instr.sureAddr, storeVar, hρ x _ hx, hρ y _ hy, hv, hs, e] at hst ⊢
    rw [hst]
    simp [spl, e]
  · rintro w1 rfl
    exact k _ (setRow_grown _) (by simp [World.setRow]) (setRow_heap w g _ _ _ _ hr)
theorem WL.store {t : TypeId} {x y : Operand} {g o o' : Nat} {cs : List Value} {v : Value} {tt : TypeId} (ht : PlainTy P t) (hx : ev env x = some (.pointer (some ⟨g, o, none⟩))) (hy : ev env y = some v)
    (h1 : v.oneCell' = true) (hr : Row w g cs tt) (ho : o = o') (hf : o' < cs.length)
    (k : ∀ w1, w.grownBy w1 (some g) → w1.heap.size = w.heap.size → Row w1 g (spl cs o' [v]) tt → S w1 ∧ WL P ops Q S r n env w1) :
    WL P ops Q S (({ dst := none, op := .store t x y, type := ty, pos := pos, after := aft, guard := none }, false) :: r) n env w :=
  WL.storeV ht.size hx hy (vs := [v]) (by cases v <;> first | rfl | simp [Value.oneCell'] at h1) rfl (by simpa using h1) hr ho hf k
theorem WL.storeAgg {t kk : TypeId} {x y : Operand} {g o o' : Nat} {cs vs : List Value} {tt : TypeId} (ht : AggTy P t kk) (hx : ev env x = some (.pointer (some ⟨g, o, none⟩))) (hy : ev env y = some (.agg vs.toArray))
    (hk : vs.length = kk) (h1 : ∀ u ∈ vs, u.oneCell' = true) (hr : Row w g cs tt) (ho : o = o') (hf : o' + vs.length ≤ cs.length)
    (k : ∀ w1, w.grownBy w1 (some g) → w1.heap.size = w.heap.size → Row w1 g (spl cs o' vs) tt → S w1 ∧ WL P ops Q S r n env w1) :
    WL P ops Q S (({ dst := none, op := .store t x y, type := ty, pos := pos, after := aft, guard := none }, false) :: r) n env w :=
  WL.storeV ht.size hx hy rfl hk h1 hr ho hf k

/-- A struct or an array put together: the run is handed over. -/
theorem WL.build {t : TypeId} {parts : Array (Nat × Operand)} {vals : Array (Nat × Value)} {v : Value} (ha : ∀ ρ, Agrees ρ env → (parts.map fun p => (p.1, ρ p.2)) = vals) (hb : ∀ w, (Instr.build t vals).run P w = .ok v w) (hd : Nat.blt d n = true)
    (k : WL P ops Q S r n ((d, v) :: env) w) :
    WL P ops Q S (({ dst := some d, op := .build t parts, type := ty, pos := pos, after := aft, guard := none }, b) :: r) n env w :=
  WL.pure rfl hd (v := v) (fun w' ρ hρ => by
    have := ha ρ hρ
    simp [execOp, this, hb w']) k
theorem parts1 {x : Operand} {i : Nat} {v : Value} (hx : ev env x = some v) : ∀ ρ, Agrees ρ env → (#[(i, x)].map fun p => (p.1, ρ p.2)) = #[(i, v)] := fun ρ hρ => by simp [hρ x v hx]
theorem parts2 {x y : Operand} {i j : Nat} {v u : Value} (hx : ev env x = some v) (hy : ev env y = some u) : ∀ ρ, Agrees ρ env → (#[(i, x), (j, y)].map fun p => (p.1, ρ p.2)) = #[(i, v), (j, u)] := fun ρ hρ => by simp [hρ x v hx, hρ y u hy]

theorem WL.make {t e kk bytes : Nat} {zs : List Value} {x y : Operand} {kl kc : IntKind} {l c : Nat} (ht : MakeTy P t e kk bytes zs) (hx : ev env x = some (.int kl (l : Int))) (hy : ev env y = some (.int kc (c : Int))) (hlc : l ≤ c) (hb : bytes * c ≤ 281474976710656) (h63 : c ≤ 9223372036854775807) (hd : Nat.blt d n = true)
    (k : ∀ w1 cs, w.grownBy w1 none → w1.heap.size = w.heap.size + 1 → cs.length = c * kk → (∀ j, j < c * kk → cs[j]? = zs[j % kk]?) → Row w1 w.heap.size cs e → S w1 ∧ WL P ops Q S r n ((d, .slice (some ⟨w.heap.size, 0, none⟩) l c) :: env) w1) :
    WL P ops Q S (({ dst := some d, op := .makeSlice t x y, type := ty, pos := pos, after := aft, guard := none }, false) :: r) n env w := by
  obtain ⟨hu, i, z, hi, hz, rfl, rfl, hc, hl, h0⟩ := ht
  have hb' : (i.bytes : Int) * (c : Int) ≤ 281474976710656 := by
    have h : ((i.bytes * c : Nat) : Int) ≤ 281474976710656 := by omega
    rwa [Int.natCast_mul] at h
  have hr := run_make (P := P) w t e i z hu hi hz kl kc l c (by omega) (by omega) hb' (by omega)
  simp only [Int.toNat_natCast] at hr
  refine WL.eff rfl hd (fun v w1 => v = .slice (some ⟨w.heap.size, 0, none⟩) l c ∧ w1 = w.alloc (.cells (madeCells z.cells (c * i.size)) e)) (fun ρ hρ => ⟨_, _, ?_, rfl, rfl⟩) ?_
  · simp [execOp, hρ x _ hx, hρ y _ hy, hr]
  · rintro v w1 ⟨rfl, rfl⟩
    refine k _ (madeCells z.cells (c * i.size)).toList (World.grownBy_alloc w _ none) (by simp) (by simp [madeCells]) ?_ (by simpa using row_alloc w (madeCells z.cells (c * i.size)).toList e)
    intro j hj
    have hm : j % i.size < zs.length := by rw [hl]; exact Nat.mod_lt _ h0
    simp only [madeCells, Array.getElem?_toList, Array.getElem?_map]
    rw [Array.getElem?_eq_getElem (by simpa using hj)]
    simp [hc, hl]
    rw [List.getElem?_eq_getElem hm]; rfl

theorem fill1 (v : Value) (z : Value) : Instr.fill (fun i => some (i * 1, 1)) #[z] [(0, v)] = (if v.cells.size = 1 then some v.cells else none) := by
  simp only [Instr.fill]
  by_cases h : v.cells.size = 1
  · obtain ⟨c, hc⟩ : ∃ c, v.cells = #[c] := by
      refine ⟨v.cells[0], ?_⟩
      apply Array.ext
      · simp [h]
      · intro i h1 h2
        have : i = 0 := by simp at h2; omega
        subst this; simp
    simp [hc]
  · simp [h]
/-- '[]T{v}', one element of one cell. -/
theorem WL.buildSlice1 {t e bytes : Nat} {z : Value} {x : Operand} {v : Value} (ht : MakeTy P t e 1 bytes [z]) (hx : ev env x = some v) (h1 : v.oneCell' = true) (hd : Nat.blt d n = true)
    (k : ∀ w1, w.grownBy w1 none → w1.heap.size = w.heap.size + 1 → Row w1 w.heap.size [v] e → S w1 ∧ WL P ops Q S r n ((d, .slice (some ⟨w.heap.size, 0, none⟩) 1 1) :: env) w1) :
    WL P ops Q S (({ dst := some d, op := .buildSlice t 1 #[(0, x)], type := ty, pos := pos, after := aft, guard := none }, false) :: r) n env w := by
  obtain ⟨hu, i, z', hi, hz, h2, rfl, hc, hl, h0⟩ := ht
  have hvc : v.cells = #[v] := by cases v <;> first | rfl | simp [Value.oneCell'] at h1
  refine WL.eff rfl hd (fun v' w1 => v' = .slice (some ⟨w.heap.size, 0, none⟩) 1 1 ∧ w1 = w.alloc (.cells #[v] e)) (fun ρ hρ => ⟨_, _, ?_, rfl, rfl⟩) ?_
  · have hf := fill1 v z
    simp only [Nat.mul_one, hvc, List.size_toArray, List.length_cons, List.length_nil, Nat.zero_add, if_true] at hf
    have hrange : (Array.range 1).map (fun j => [z][j % 1]?.getD default) = #[z] := by
      have e2 : Array.range 1 = #[0] := by decide +kernel
      rw [e2]; simp
    simp [execOp, hρ x _ hx, Instr.buildSlice, run_underlying hu, sizeOf, typeInfo, hi, h2, zeroValue, hz, hc, newRow, hrange, hf]
  · rintro v' w1 ⟨rfl, rfl⟩
    exact k _ (World.grownBy_alloc w _ none) (by simp) (by simpa using row_alloc w [v] e)
/-- '[]T{v}', one element of two cells. -/
theorem WL.buildSlice2 {t e bytes : Nat} {z1 z2 c1 c2 : Value} {x : Operand} (ht : MakeTy P t e 2 bytes [z1, z2]) (hx : ev env x = some (.agg #[c1, c2])) (hd : Nat.blt d n = true)
    (k : ∀ w1, w.grownBy w1 none → w1.heap.size = w.heap.size + 1 → Row w1 w.heap.size [c1, c2] e → S w1 ∧ WL P ops Q S r n ((d, .slice (some ⟨w.heap.size, 0, none⟩) 1 1) :: env) w1) :
    WL P ops Q S (({ dst := some d, op := .buildSlice t 1 #[(0, x)], type := ty, pos := pos, after := aft, guard := none }, false) :: r) n env w := by
  obtain ⟨hu, i, z', hi, hz, h2, rfl, hc, hl, h0⟩ := ht
  refine WL.eff rfl hd (fun v' w1 => v' = .slice (some ⟨w.heap.size, 0, none⟩) 1 1 ∧ w1 = w.alloc (.cells #[c1, c2] e)) (fun ρ hρ => ⟨_, _, ?_, rfl, rfl⟩) ?_
  · have hf : Instr.fill (fun i => some (i * 2, 2)) #[z1, z2] [(0, .agg #[c1, c2])] = some #[c1, c2] := by rfl
    have hrange : (Array.range 2).map (fun j => [z1, z2][j % 2]?.getD default) = #[z1, z2] := by
      have e2 : Array.range 2 = #[0, 1] := by decide +kernel
      rw [e2]; simp
    simp [execOp, hρ x _ hx, Instr.buildSlice, run_underlying hu, sizeOf, typeInfo, hi, h2, zeroValue, hz, hc, newRow, hrange, hf]
  · rintro v' w1 ⟨rfl, rfl⟩
    exact k _ (World.grownBy_alloc w _ none) (by simp) (by simpa using row_alloc w [c1, c2] e)

/-- 'append(s, x...)' onto a slice that the call made; x one element that lies in a row. -/
theorem WL.append {t e kk bytes : Nat} {zs : List Value} {s x : Operand} {v : Value} {m B h c : Nat} {xs news : List Value} {tt : TypeId} (ht : MakeTy P t e kk bytes zs) (hs : ev env s = some v) (hx : ev env x = some (.slice (some ⟨h, 0, none⟩) 1 c)) (hown : w.ownsRow B e kk v m xs)
    (hr : Row w h news tt) (hl : news.length = kk) (h1 : ∀ u ∈ news, u.oneCell' = true) (hm : (m + 1) * bytes ≤ 140737488355328) (hm' : m + 1 ≤ 9223372036854775807) (hB : B ≤ w.heap.size) (hd : Nat.blt d n = true)
    (k : ∀ v' w1, w1.ownsRow B e kk v' (m + 1) (xs ++ news) → w.grownBy w1 v.ownBlock → v' ≠ .slice none 0 0 → S w1 ∧ WL P ops Q S r n ((d, v') :: env) w1) :
    WL P ops Q S (({ dst := some d, op := .call { callee := .builtin .append, args := #[s, x], argTypes := #[t, t] }, type := ty, pos := pos, after := aft, guard := none }, false) :: r) n env w := by
  obtain ⟨hu, i, z, hi, hz, hsz, hby, hc, hzl, h0⟩ := ht
  obtain ⟨v', w', hrun, ho, hg, hn⟩ := run_append_own (P := P) w B t ty e i z kk bytes hu hi hz hsz hby (by rw [hc]; simpa using hzl) h0 v m xs hown ⟨h, 0, none⟩ 1 c news (by omega) (fun j u hj => by rw [add_none, Nat.zero_add]; exact hr.cell hj) h1 (by simp only [maxLen]; omega) hm hB
  refine WL.eff rfl hd (fun u w1 => u = v' ∧ w1 = w') (fun ρ hρ => ⟨_, _, ?_, rfl, rfl⟩) ?_
  · simp [execOp, resolve, invoke, builtin, hρ s _ hs, hρ x _ hx, hrun]
  · rintro u w1 ⟨rfl, rfl⟩
    exact k _ _ ho hg (fun e => by have := (hn.1 e).2; simp at this)
theorem ownsRow_up {w w' : World} {base e size : Nat} {v : Value} {m : Nat} {xs : List Value} (h : w.ownsRow base e size v m xs) (hu : Up w w') : w'.ownsRow base e size v m xs :=
  h.kept (row := none) ⟨hu.os, hu.tape, hu.output, hu.size, fun _ hk _ => hu.block hk⟩ (by cases v.ownBlock <;> simp)
end effects
end Go.Lx
