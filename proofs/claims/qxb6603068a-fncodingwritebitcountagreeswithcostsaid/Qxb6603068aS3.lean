import Derived.Test.Qxb6603068aS2
namespace Go.Lx
open Go.Proofs Go.RowKit

/-! ### Plain: move to front -/
def posL (s : Int) : List Int → Nat
  | [] => 0
  | x :: r => if x = s then 0 else posL s r + 1
def outL (s : Int) : List Int → List Int
  | [] => []
  | x :: r => if x = s then r else x :: outL s r
def encG (used : Nat) : List Int → List Int → Nat → List Int
  | [], _, z => runD z ++ [((used + 1 : Nat) : Int)]
  | s :: ss, L, z => if L.head? = some s then encG used ss L (z + 1) else runD z ++ ((posL s L + 1 : Nat) : Int) :: encG used ss (s :: outL s L) 0
def iotaL (used : Nat) : List Int := (List.range used).map Int.ofNat
theorem pos_out : ∀ (L : List Int) (s : Int) (i : Nat), (hi : i < L.length) → L[i] = s → (∀ j, (h : j < L.length) → j < i → L[j] ≠ s) → posL s L = i ∧ outL s L = L.take i ++ L.drop (i + 1)
  | [], s, i, hi, _, _ => by simp at hi
  | x :: r, s, 0, _, h, _ => by
    simp at h
    simp [posL, outL, h]
  | x :: r, s, i + 1, hi, h, hno => by
    have hx : x ≠ s := hno 0 (by simp) (by omega)
    obtain ⟨h1, h2⟩ := pos_out r s i (by simpa using hi) (by simpa using h) (fun j hj hji => by have := hno (j + 1) (by simpa using hj) (by omega); simpa using this)
    simp [posL, outL, hx, h1, h2]
/-- The row while the search goes on: what lay below i has moved up by one. -/
def curL (L : List Int) (i : Nat) : List Int := L.take 1 ++ (L.take (i - 1) ++ L.drop i)
theorem curL_at {L : List Int} {i : Nat} (h1 : 1 ≤ i) (h : i ≤ L.length) (j : Nat) : (curL L i)[j]? = if j = 0 then L[0]? else if j < i then L[j - 1]? else L[j]? := by
  have ht : (L.take 1).length = 1 := by simp; omega
  have ht2 : (L.take (i - 1)).length = i - 1 := by simp; omega
  unfold curL
  by_cases h0 : j = 0
  · subst h0
    rw [if_pos rfl, List.getElem?_append_left (by omega), List.getElem?_take_of_lt (by omega)]
  · rw [if_neg h0, List.getElem?_append_right (by omega), ht]
    by_cases hj : j < i
    · rw [if_pos hj, List.getElem?_append_left (by omega), List.getElem?_take_of_lt (by omega)]
    · rw [if_neg hj, List.getElem?_append_right (by omega), ht2, List.getElem?_drop]
      congr 1
      omega
theorem curL_len {L : List Int} {i : Nat} (h1 : 1 ≤ i) (h : i ≤ L.length) : (curL L i).length = L.length := by
  simp [curL]; omega
theorem curL_one (L : List Int) (h : 1 ≤ L.length) : curL L 1 = L := by
  apply List.ext_getElem?
  intro j
  rw [curL_at (Nat.le_refl _) h]
  by_cases h0 : j = 0
  · rw [if_pos h0, h0]
  · rw [if_neg h0, if_neg (by omega)]
theorem curL_set {L : List Int} {i : Nat} (h1 : 1 ≤ i) (h : i < L.length) : (curL L i).set i (L[i - 1]'(by omega)) = curL L (i + 1) := by
  apply List.ext_getElem?
  intro j
  have hlen : (curL L i).length = L.length := curL_len h1 (by omega)
  rw [curL_at (i := i + 1) (by omega) (by omega)]
  by_cases e : j = i
  · subst e
    rw [List.getElem?_set_self (by omega), if_neg (by omega), if_pos (by omega), List.getElem?_eq_getElem (by omega)]
  · rw [List.getElem?_set_ne (Ne.symm e), curL_at h1 (by omega)]
    by_cases h0 : j = 0
    · rw [if_pos h0, if_pos h0]
    · rw [if_neg h0, if_neg h0]
      by_cases hj : j < i
      · rw [if_pos hj, if_pos (by omega)]
      · rw [if_neg hj, if_neg (by omega)]
theorem curL_done {L : List Int} {i : Nat} (s : Int) (h1 : 1 ≤ i) (h : i < L.length) : (curL L (i + 1)).set 0 s = s :: (L.take i ++ L.drop (i + 1)) := by
  have : 1 ≤ L.length := by omega
  cases L with
  | nil => simp at h
  | cons x r => simp [curL]
theorem zero52 : ZeroTy Try.prog 52 (List.replicate 256 (.int .u8 0)) := ZeroTy.of (z := .agg (List.replicate 256 (Value.int .u8 0)).toArray) (by kernel_rfl) rfl
end Go.Lx
