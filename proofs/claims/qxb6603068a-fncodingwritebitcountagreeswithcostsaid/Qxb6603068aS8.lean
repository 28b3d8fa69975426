import Derived.Test.Qxb6603068aS6c
namespace Go.Lx
open Go.Proofs Go.RowKit

/-! ### Plain: the place by recency -/
def cnt (f : Nat → Bool) : Nat → Nat
  | 0 => 0
  | n + 1 => cnt f n + (if f n then 1 else 0)
theorem cnt_le (f : Nat → Bool) : ∀ n, cnt f n ≤ n
  | 0 => Nat.le_refl _
  | n + 1 => by have := cnt_le f n; unfold cnt; split <;> omega
theorem cnt_iota (g : Int → Bool) : ∀ k, (iotaL k).countP g = cnt (fun v => g (v : Int)) k
  | 0 => rfl
  | k + 1 => by
    have ih := cnt_iota g k
    have : iotaL (k + 1) = iotaL k ++ [(k : Int)] := by simp [iotaL, List.range_succ]
    rw [this, List.countP_append, ih]
    simp [cnt, List.countP_cons]
theorem cnt_congr {f g : Nat → Bool} : ∀ n, (∀ v, v < n → f v = g v) → cnt f n = cnt g n
  | 0, _ => rfl
  | n + 1, h => by rw [cnt, cnt, cnt_congr n (fun v hv => h v (by omega)), h n (by omega)]
theorem cnt_cut (f : Nat → Bool) (s : Nat) : ∀ n, s ≤ n → cnt (fun v => f v && decide (v < s)) n = cnt f s
  | 0, h => by
    have : s = 0 := by omega
    subst this; rfl
  | n + 1, h => by
    by_cases e : s = n + 1
    · subst e
      exact cnt_congr _ (fun v hv => by simp [hv])
    · rw [cnt, cnt_cut f s n (by omega)]
      have : ¬ n < s := by omega
      simp [this]
theorem countP_two {p q : Int → Bool} : ∀ (A : List Int), (∀ x ∈ A, p x = true → q x = false) → A.countP (fun x => p x || q x) = A.countP p + A.countP q
  | [], _ => rfl
  | x :: r, h => by
    have ih := countP_two (p := p) (q := q) r (fun y hy => h y (List.mem_cons_of_mem _ hy))
    have hx := h x (List.mem_cons_self ..)
    rw [List.countP_cons, List.countP_cons, List.countP_cons, ih]
    cases hp : p x with
    | true => simp [hx hp]; omega
    | false => cases hq : q x <;> simp <;> omega
def sn (S : List Int) (v : Int) : Int := (S[v.toNat]?).getD 0
def bef (S : List Int) (v s : Int) : Bool := decide (sn S s < sn S v) || (decide (sn S v = 0) && decide (sn S s = 0) && decide (v < s))
theorem bef_asymm {S : List Int} {v s : Int} (h : bef S v s = true) : bef S s v = false := by
  simp only [bef, Bool.or_eq_true, Bool.and_eq_true, decide_eq_true_eq] at h
  simp only [bef, Bool.or_eq_false_iff, Bool.and_eq_false_iff, decide_eq_false_iff_not]
  omega
theorem bef_self (S : List Int) (s : Int) : bef S s s = false := by simp [bef]
theorem posL_count {S : List Int} {s : Int} : ∀ (A : List Int), A.Pairwise (fun v w => bef S v w = true) → s ∈ A → posL s A = A.countP (fun v => bef S v s)
  | [], _, h => by simp at h
  | x :: r, hp, h => by
    obtain ⟨h1, h2⟩ := List.pairwise_cons.1 hp
    by_cases e : x = s
    · subst e
      have : r.countP (fun v => bef S v x) = 0 := List.countP_eq_zero.2 (fun w hw => by rw [bef_asymm (h1 w hw)]; simp)
      simp [posL, this, bef_self]
    · have hs : s ∈ r := by
        rcases List.mem_cons.1 h with h | h
        · exact absurd h.symm e
        · exact h
      have ih := posL_count r h2 hs
      simp [posL, e, ih, h1 s hs]
theorem outL_erase : ∀ (A : List Int) (s : Int), s ∈ A → A.Perm (s :: outL s A)
  | [], s, h => by simp at h
  | x :: r, s, h => by
    by_cases e : x = s
    · subst e; simp [outL]
    · have hs : s ∈ r := by
        rcases List.mem_cons.1 h with h | h
        · exact absurd h.symm e
        · exact h
      have ih := outL_erase r s hs
      simp only [outL, if_neg e]
      exact (List.Perm.cons x ih).trans (List.Perm.swap s x _)
theorem outL_sub : ∀ (A : List Int) (s : Int), (outL s A).Sublist A
  | [], s => by simp [outL]
  | x :: r, s => by
    by_cases e : x = s
    · simp only [outL, if_pos e]; exact List.sublist_cons_self _ _
    · simp only [outL, if_neg e]; exact (outL_sub r s).cons_cons x
theorem outL_not {S : List Int} {s : Int} : ∀ (A : List Int), A.Pairwise (fun v w => bef S v w = true) → s ∉ outL s A
  | [], _ => by simp [outL]
  | x :: r, hp => by
    obtain ⟨h1, h2⟩ := List.pairwise_cons.1 hp
    by_cases e : x = s
    · subst e
      simp only [outL, if_pos]
      intro hx
      have := h1 x hx
      rw [bef_self] at this; cases this
    · simp only [outL, if_neg e, List.mem_cons, not_or]
      exact ⟨fun h => e h.symm, outL_not r h2⟩
theorem sn_set {S : List Int} {s v x : Int} (hs : 0 ≤ s) (hv : 0 ≤ v) (hl : s.toNat < S.length) : sn (S.set s.toNat x) v = if v = s then x else sn S v := by
  unfold sn
  by_cases e : v = s
  · subst e; rw [List.getElem?_set_self hl, if_pos rfl]; rfl
  · rw [List.getElem?_set_ne (by omega), if_neg e]
/-- Where the model stands: 'seen' the row S, the ranks in their order A, the number of ranks met d. -/
structure RSt (k i : Nat) (S A : List Int) (d : Nat) : Prop where
  len : S.length = 256
  pw : A.Pairwise fun v w => bef S v w = true
  pm : A.Perm (iotaL k)
  bd : ∀ v, 0 ≤ sn S v ∧ sn S v ≤ i
  ds : d = A.countP (fun v => decide (0 < sn S v))
theorem iota_mem {k : Nat} {s : Int} : s ∈ iotaL k ↔ 0 ≤ s ∧ s < k := by
  unfold iotaL
  rw [List.mem_map]
  constructor
  · rintro ⟨a, ha, rfl⟩
    have := List.mem_range.1 ha
    simp; omega
  · rintro ⟨h1, h2⟩
    exact ⟨s.toNat, List.mem_range.2 (by omega), by simp; omega⟩
theorem RSt.start (k : Nat) : RSt k 0 (List.replicate 256 0) (iotaL k) 0 := by
  have h0 : ∀ v, sn (List.replicate 256 0) v = 0 := by
    intro v
    unfold sn
    rw [List.getElem?_replicate]
    split <;> rfl
  have hl : (List.replicate 256 (0 : Int)).length = 256 := List.length_replicate
  generalize List.replicate 256 (0 : Int) = S at *
  refine ⟨hl, ?_, List.Perm.refl _, fun v => by rw [h0]; simp, ?_⟩
  · unfold iotaL
    rw [List.pairwise_map]
    refine List.Pairwise.imp ?_ List.pairwise_lt_range
    intro a b hab
    simp [bef, h0]; exact hab
  · symm
    rw [List.countP_eq_zero]
    intro v _
    simp [h0]
theorem RSt.mem {k i d : Nat} {S A : List Int} (h : RSt k i S A d) {s : Int} : s ∈ A ↔ 0 ≤ s ∧ s < k := by rw [h.pm.mem_iff]; exact iota_mem
theorem RSt.pos {k i d : Nat} {S A : List Int} (h : RSt k i S A d) {s : Nat} (hs : s < k) :
    posL s A = if 0 < sn S s then cnt (fun v => decide (sn S s < sn S v)) k else d + cnt (fun v => decide (sn S v = 0)) s := by
  have hm : (s : Int) ∈ A := h.mem.2 (by omega)
  rw [posL_count A h.pw hm]
  have hb := h.bd s
  split
  · rename_i hp
    rw [h.pm.countP_eq, cnt_iota]
    refine cnt_congr _ (fun v _ => ?_)
    have : ¬ sn S s = 0 := by omega
    simp [bef, this]
  · rename_i hp
    have hz : sn S s = 0 := by omega
    have e : ∀ v ∈ A, bef S v s = (decide (0 < sn S v) || (decide (sn S v = 0) && decide (v < (s : Int)))) := by
      intro v _
      simp [bef, hz]
    rw [List.countP_congr (q := fun v => decide (0 < sn S v) || (decide (sn S v = 0) && decide (v < (s : Int)))) (fun v hv => by rw [e v hv]),
      countP_two (p := fun v => decide (0 < sn S v)) (q := fun v => decide (sn S v = 0) && decide (v < (s : Int))) A (fun x _ hx => by
        simp only [decide_eq_true_eq] at hx
        have : ¬ sn S x = 0 := by omega
        simp [this]), ← h.ds]
    congr 1
    rw [h.pm.countP_eq, cnt_iota]
    rw [← cnt_cut (fun v => decide (sn S v = 0)) s k (by omega)]
    refine cnt_congr _ (fun v _ => ?_)
    have : decide ((v : Int) < (s : Int)) = decide (v < s) := by rw [decide_eq_decide]; omega
    simp only [this]
theorem RSt.step {k i d : Nat} {S A : List Int} (h : RSt k i S A d) {s : Nat} (hs : s < k) (hk : k ≤ 256) :
    RSt k (i + 1) (S.set s ((i : Int) + 1)) ((s : Int) :: outL s A) (if 0 < sn S s then d else d + 1) := by
  have hm : (s : Int) ∈ A := h.mem.2 (by omega)
  have hns := outL_not (s := (s : Int)) A h.pw
  have hsub := outL_sub A s
  have hl := h.len
  have hsn : ∀ v : Int, 0 ≤ v → sn (S.set s ((i : Int) + 1)) v = if v = s then (i : Int) + 1 else sn S v := fun v hv => sn_set (s := (s : Int)) (by omega) hv (by simp; omega)
  have hne : ∀ v ∈ outL s A, 0 ≤ v ∧ v ≠ s := fun v hv => ⟨(h.mem.1 (hsub.mem hv)).1, fun e => hns (e ▸ hv)⟩
  have hpm := outL_erase A s hm
  refine ⟨by simp [hl], List.pairwise_cons.2 ⟨?_, ?_⟩, hpm.symm.trans h.pm, ?_, ?_⟩
  · intro v hv
    obtain ⟨h1, h2⟩ := hne v hv
    have := (h.bd v).2
    simp only [bef, hsn v h1, hsn s (by omega), if_neg h2, if_true, Bool.or_eq_true, decide_eq_true_eq]
    left; omega
  · refine List.Pairwise.imp_of_mem ?_ (List.Pairwise.sublist hsub h.pw)
    intro v u hv hu hb
    obtain ⟨h1, h2⟩ := hne v hv
    obtain ⟨h3, h4⟩ := hne u hu
    simp only [bef, hsn v h1, hsn u h3, if_neg h2, if_neg h4] at hb ⊢
    exact hb
  · intro v
    have hb := h.bd v
    by_cases e : s = v.toNat
    · have : sn (S.set s ((i : Int) + 1)) v = (i : Int) + 1 := by
        unfold sn
        rw [e, List.getElem?_set_self (by omega)]; rfl
      rw [this]; omega
    · have : sn (S.set s ((i : Int) + 1)) v = sn S v := by
        unfold sn
        rw [List.getElem?_set_ne e]
      rw [this]; omega
  · have h1 : (outL s A).countP (fun v => decide (0 < sn (S.set s ((i : Int) + 1)) v)) = (outL s A).countP (fun v => decide (0 < sn S v)) := by
      refine List.countP_congr (fun v hv => ?_)
      obtain ⟨h1, h2⟩ := hne v hv
      rw [hsn v h1, if_neg h2]
    have h2 := h.ds
    rw [hpm.countP_eq, List.countP_cons] at h2
    rw [List.countP_cons, h1, hsn s (by omega), if_pos rfl]
    have hpos : (0 : Int) < (i : Int) + 1 := by omega
    by_cases hp : 0 < sn S s
    · simp [hp] at h2; simp [hp, hpos]; exact h2
    · simp [hp] at h2; simp [hp, hpos]; exact h2
theorem posL_app : ∀ {A Z : List Int} {s : Int}, s ∈ A → posL s (A ++ Z) = posL s A
  | [], Z, s, h => by simp at h
  | x :: r, Z, s, h => by
    by_cases e : x = s
    · simp [posL, e]
    · have hs : s ∈ r := by
        rcases List.mem_cons.1 h with h | h
        · exact absurd h.symm e
        · exact h
      simp [posL, e, posL_app hs]
/-- The encoder's step by the place. -/
theorem encG_pos (used : Nat) {s : Int} {ss L : List Int} {z : Nat} (hs : s ∈ L) :
    encG used (s :: ss) L z = if posL s L = 0 then encG used ss (s :: outL s L) (z + 1) else runD z ++ ((posL s L + 1 : Nat) : Int) :: encG used ss (s :: outL s L) 0 := by
  cases L with
  | nil => simp at hs
  | cons x r =>
    by_cases e : x = s
    · subst e
      simp [encG, posL, outL]
    · simp [encG, posL, outL, e]
end Go.Lx
