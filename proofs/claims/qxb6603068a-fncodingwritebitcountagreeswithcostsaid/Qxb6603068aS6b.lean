import Derived.Test.Qxb6603068aS6
namespace Go.Lx
open Go.Proofs Go.RowKit

/-- Where the decoder stands: j symbols read; 'out' bytes settled; a run of 'run' so far, the next digit's weight 'wg'. -/
structure DSt (k : Nat) (ranks G : List Int) (j out run wg zz : Nat) (L rest : List Int) : Prop where
  sy : G.drop j = runD zz ++ tailE k L rest
  rk : ranks.drop out = List.replicate (run + wg * zz) (L.headD 0) ++ rest
  hd : rest.head? ≠ some (L.headD 0)
  wg : 1 ≤ wg ∧ wg ≤ run + 1
  al : ∃ A Z, L = A ++ Z ∧ A.length = k ∧ ∀ s ∈ ranks, s ∈ A
  len : L.length = 256
theorem DSt.digit {k : Nat} {ranks G : List Int} {j out run wg y : Nat} {L rest : List Int} (h : DSt k ranks G j out run wg (y + 1) L rest) :
    G[j]? = some ((y % 2 : Nat) : Int) ∧ DSt k ranks G (j + 1) out (run + (y % 2 + 1) * wg) (wg * 2) (y / 2) L rest := by
  have hs := h.sy
  rw [runD_succ] at hs
  have h0 : (G.drop j)[0]? = some ((y % 2 : Nat) : Int) := by rw [hs]; rfl
  rw [List.getElem?_drop, Nat.add_zero] at h0
  refine ⟨h0, ⟨?_, ?_, h.hd, ?_, h.al, h.len⟩⟩
  · rw [← List.drop_drop, hs]; rfl
  · rw [h.rk]
    congr 2
    have e : y + 1 = (y % 2 + 1) + 2 * (y / 2) := by omega
    have e2 : wg * (y + 1) = (y % 2 + 1) * wg + wg * 2 * (y / 2) := by
      conv => lhs; rw [e]
      rw [Nat.mul_add, Nat.mul_comm wg (y % 2 + 1), Nat.mul_assoc]
    rw [e2, Nat.add_assoc]
  · obtain ⟨h1, h2⟩ := h.wg
    have : wg ≤ (y % 2 + 1) * wg := Nat.le_mul_of_pos_left _ (by omega)
    omega
theorem headD_cons {L : List Int} (h : L.length = 256) : ∃ t, L = L.headD 0 :: t := by
  cases L with
  | nil => simp at h
  | cons x r => exact ⟨r, rfl⟩
theorem posL_pos {L : List Int} {s x : Int} {t : List Int} (hL : L = x :: t) (h : s ≠ x) : 1 ≤ posL s L := by
  subst hL
  simp [posL, Ne.symm h]
theorem DSt.start {k : Nat} {ranks G : List Int} {j out : Nat} {L rs : List Int} (hG : G.drop j = encG k rs L 0) (hr : ranks.drop out = rs) (al : ∃ A Z, L = A ++ Z ∧ A.length = k ∧ ∀ s ∈ ranks, s ∈ A) (len : L.length = 256) :
    ∃ zz rest, DSt k ranks G j out 0 1 zz L rest := by
  obtain ⟨t, ht⟩ := headD_cons len
  obtain ⟨m, rest, h1, h2, h3⟩ := encG_split k (L.headD 0) t rs 0
  rw [← ht] at h3
  exact ⟨m, rest, by rw [hG, h3, Nat.zero_add], by rw [hr, h1]; simp, h2, ⟨Nat.le_refl _, Nat.le_refl _⟩, al, len⟩
theorem DSt.sym {k : Nat} {ranks G : List Int} {j out run wg : Nat} {L ss : List Int} {s : Int} (h : DSt k ranks G j out run wg 0 L (s :: ss)) :
    s ∈ ranks ∧ s ∈ L ∧ 1 ≤ posL s L ∧ posL s L < k ∧ G[j]? = some ((posL s L + 1 : Nat) : Int) ∧ ranks[out + run]? = some s ∧ ∃ zz rest, DSt k ranks G (j + 1) (out + run + 1) 0 1 zz (s :: outL s L) rest := by
  have hs := h.sy
  rw [runD_zero, List.nil_append, tailE] at hs
  have hrk := h.rk
  rw [Nat.mul_zero, Nat.add_zero] at hrk
  have hd2 : ranks.drop (out + run) = s :: ss := by
    rw [← List.drop_drop, hrk]
    rw [List.drop_append_of_le_length (by simp)]
    simp
  have hat : ranks[out + run]? = some s := by
    have : (ranks.drop (out + run))[0]? = some s := by rw [hd2]; rfl
    rwa [List.getElem?_drop, Nat.add_zero] at this
  have hsr : s ∈ ranks := List.mem_of_getElem? hat
  obtain ⟨A, Z, hL, hA, hall⟩ := h.al
  have hsA := hall s hsr
  obtain ⟨ho, hp⟩ := outL_append (Z := Z) hsA
  obtain ⟨t, ht⟩ := headD_cons h.len
  have hne : s ≠ L.headD 0 := fun e => h.hd (by rw [← e]; rfl)
  have hsL : s ∈ L := by rw [hL]; exact List.mem_append_left _ hsA
  have h0 : (G.drop j)[0]? = some ((posL s L + 1 : Nat) : Int) := by rw [hs]; rfl
  rw [List.getElem?_drop, Nat.add_zero] at h0
  refine ⟨hsr, hsL, posL_pos ht hne, by rw [hL]; omega, h0, hat, DSt.start (rs := ss) ?_ ?_ ⟨s :: outL s A, Z, by rw [hL, ho]; rfl, ?_, fun x hx => ?_⟩ ?_⟩
  · rw [← List.drop_drop, hs]; rfl
  · rw [← List.drop_drop, hd2]; rfl
  · have := outL_len A s hsA
    simp only [List.length_cons]; omega
  · exact List.mem_cons.2 ((outL_mem A s x hsA).1 (hall x hx))
  · have := outL_len L s hsL
    have := h.len
    simp only [List.length_cons]; omega
end Go.Lx
