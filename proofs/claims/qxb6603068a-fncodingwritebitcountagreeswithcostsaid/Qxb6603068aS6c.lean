import Derived.Test.Qxb6603068aS6b
namespace Go.Lx
open Go.Proofs Go.RowKit

/-- The decoder's list while it shifts, downward from p: what lies above q has come up by one. -/
def dnL (L : List Int) (p q : Nat) : List Int := L.take (q + 1) ++ ((L.drop q).take (p - q) ++ L.drop (p + 1))
theorem dnL_at {L : List Int} {p q : Nat} (h1 : q ≤ p) (h : p < L.length) (i : Nat) : (dnL L p q)[i]? = if i ≤ q then L[i]? else if i ≤ p then L[i - 1]? else L[i]? := by
  have ht : (L.take (q + 1)).length = q + 1 := by simp; omega
  have ht2 : ((L.drop q).take (p - q)).length = p - q := by simp; omega
  unfold dnL
  by_cases h0 : i ≤ q
  · rw [if_pos h0, List.getElem?_append_left (by omega), List.getElem?_take_of_lt (by omega)]
  · rw [if_neg h0, List.getElem?_append_right (by omega), ht]
    by_cases hp : i ≤ p
    · rw [if_pos hp, List.getElem?_append_left (by omega), List.getElem?_take_of_lt (by omega), List.getElem?_drop]
      congr 1
      omega
    · rw [if_neg hp, List.getElem?_append_right (by omega), ht2, List.getElem?_drop]
      congr 1
      omega
theorem dnL_len {L : List Int} {p q : Nat} (h1 : q ≤ p) (h : p < L.length) : (dnL L p q).length = L.length := by
  simp [dnL]; omega
theorem dnL_top {L : List Int} {p : Nat} (h : p < L.length) : dnL L p p = L := by
  apply List.ext_getElem?
  intro i
  rw [dnL_at (Nat.le_refl _) h]
  by_cases h0 : i ≤ p
  · rw [if_pos h0]
  · rw [if_neg h0, if_neg h0]
theorem dnL_step {L : List Int} {p q : Nat} (h1 : q + 1 ≤ p) (h : p < L.length) : (dnL L p (q + 1)).set (q + 1) (L[q]'(by omega)) = dnL L p q := by
  have hl := dnL_len (q := q + 1) h1 h
  apply List.ext_getElem?
  intro i
  rw [dnL_at (by omega) h]
  by_cases e : i = q + 1
  · subst e
    rw [List.getElem?_set_self (by omega), if_neg (by omega), if_pos h1, List.getElem?_eq_getElem (by omega)]
    rfl
  · rw [List.getElem?_set_ne (Ne.symm e), dnL_at h1 h]
    by_cases h0 : i ≤ q
    · rw [if_pos h0, if_pos (by omega)]
    · rw [if_neg h0, if_neg (by omega)]
theorem dnL_done {L : List Int} {p : Nat} (s : Int) (h : p < L.length) : (dnL L p 0).set 0 s = s :: (L.take p ++ L.drop (p + 1)) := by
  cases L with
  | nil => simp at h
  | cons x r => simp [dnL]
theorem outL_pos : ∀ {L : List Int} {s : Int}, s ∈ L → outL s L = L.take (posL s L) ++ L.drop (posL s L + 1)
  | [], s, h => by simp at h
  | x :: r, s, h => by
    by_cases e : x = s
    · simp [outL, posL, e]
    · have hs : s ∈ r := by
        rcases List.mem_cons.1 h with h | h
        · exact absurd h.symm e
        · exact h
      simp [outL, posL, e, outL_pos hs]
end Go.Lx
