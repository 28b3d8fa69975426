import Derived.Test.Qxb6602828aMax1
namespace Go.Lx
open Go.Proofs Go.RowKit

/-! ### A slice value that reads as a list of elements -/
def ElsV (w : World) (v : Value) (xs : List El) : Prop := ∃ a c, v = .slice a xs.length c ∧ Els w a xs ∧ xs.length ≤ c
def isNilV : Value → Bool
  | .slice none _ _ => true
  | _ => false
theorem ElsV.up {w w' : World} {v : Value} {xs : List El} (h : ElsV w v xs) (hu : Up w w') : ElsV w' v xs := by
  obtain ⟨a, c, rfl, he, hc⟩ := h
  exact ⟨a, c, rfl, he.up hu, hc⟩
theorem isNilV_slice (a : Option Addr) (n c : Nat) : isNilV (.slice a n c) = a.isNone := by cases a <;> rfl

theorem b1TimeBytes_v (w : World) (v : Value) (xs : List El) (hx : ElsV w v xs) (hl : xs.length ≤ 9223372036854775807) :
    Calls Try.prog 9 #[v] w fun e w' => ∃ r : Int, e = .returned (.int .i64 r) ∧ 0 ≤ r ∧ r ≤ 4194304 ∧ Up w w' := by
  obtain ⟨a, c, rfl, he, hc⟩ := hx
  exact b1TimeBytes_c w a c xs he hl
theorem b1Sorted_v (w : World) (v : Value) (xs : List El) (hx : ElsV w v xs) (hl : xs.length ≤ 9223372036854775807) :
    Calls Try.prog 10 #[v] w fun e w' => ∃ r : Bool, e = .returned (.bool r) ∧ (r = true → SortedA xs) ∧ Up w w' := by
  obtain ⟨a, c, rfl, he, hc⟩ := hx
  exact b1Sorted_c w a c xs he hl
theorem b1Time_v (w : World) (v : Value) (xs : List El) (hx : ElsV w v xs) (hl : xs.length ≤ 1048576) :
    Calls Try.prog 11 #[v] w fun e w' => ∃ v', e = .returned v' ∧ ElsV w' v' xs ∧ isNilV v' = isNilV v ∧ Up w w' := by
  obtain ⟨a, c, rfl, he, hc⟩ := hx
  refine (b1Time_c w a c xs he hl).mono ?_
  rintro e w' ⟨a', c', rfl, h1, h2, h3, h4⟩
  exact ⟨_, rfl, ⟨a', c', rfl, h1, h2⟩, by rw [isNilV_slice, isNilV_slice, h3], h4⟩
theorem leq_v (w : World) (v u : Value) (xs ys : List El) (hx : ElsV w v xs) (hy : ElsV w u ys) (hl : xs.length ≤ 4194304) (hl' : ys.length ≤ 4194304) :
    Calls Try.prog 19 #[v, u] w fun e w' => e = .returned (.bool (leqG xs ys)) ∧ Up w w' := by
  obtain ⟨a, c, rfl, he, hc⟩ := hx
  obtain ⟨a', c', rfl, he', hc'⟩ := hy
  exact leq_c w a a' c c' xs ys he he' hc' hl hl'

/-! ### Max -/
def mergeF : Nat → List El → List El → List El
  | 0, _, _ => []
  | _ + 1, [], [] => []
  | n + 1, x :: xs, [] => x :: mergeF n xs []
  | n + 1, [], y :: ys => if 0 < y.2 then y :: mergeF n [] ys else mergeF n [] ys
  | n + 1, x :: xs, y :: ys =>
    if nlt x.1 y.1 then x :: mergeF n xs (y :: ys)
    else if nlt y.1 x.1 then (if 0 < y.2 then y :: mergeF n (x :: xs) ys else mergeF n (x :: xs) ys)
    else (x.1, max x.2 y.2) :: mergeF n xs ys
def merge (xs ys : List El) : List El := mergeF (xs.length + ys.length) xs ys
def maxG (xs ys : List El) : List El := if leqG ys xs then xs else merge xs ys

theorem mergeF_more : ∀ (n : Nat) (xs ys : List El), xs.length + ys.length ≤ n → mergeF n xs ys = merge xs ys := by
  have key : ∀ (n m : Nat) (xs ys : List El), xs.length + ys.length ≤ n → xs.length + ys.length ≤ m → mergeF n xs ys = mergeF m xs ys := by
    intro n
    induction n with
    | zero =>
      intro m xs ys h1 h2
      have hx : xs = [] := List.eq_nil_of_length_eq_zero (by omega)
      have hy : ys = [] := List.eq_nil_of_length_eq_zero (by omega)
      subst hx; subst hy
      cases m <;> rfl
    | succ n ih =>
      intro m xs ys h1 h2
      cases m with
      | zero =>
        have hx : xs = [] := List.eq_nil_of_length_eq_zero (by omega)
        have hy : ys = [] := List.eq_nil_of_length_eq_zero (by omega)
        subst hx; subst hy; rfl
      | succ m =>
        match xs, ys with
        | [], [] => rfl
        | x :: xs, [] => simp only [mergeF]; rw [ih m xs [] (by simp at h1 ⊢; omega) (by simp at h2 ⊢; omega)]
        | [], y :: ys => simp only [mergeF]; rw [ih m [] ys (by simp at h1 ⊢; omega) (by simp at h2 ⊢; omega)]
        | x :: xs, y :: ys =>
          simp only [mergeF]
          rw [ih m xs (y :: ys) (by simp at h1 ⊢; omega) (by simp at h2 ⊢; omega), ih m (x :: xs) ys (by simp at h1 ⊢; omega) (by simp at h2 ⊢; omega), ih m xs ys (by simp at h1 ⊢; omega) (by simp at h2 ⊢; omega)]
  intro n xs ys h
  exact key n _ xs ys h (Nat.le_refl _)
theorem merge_nil : merge [] [] = [] := rfl
theorem merge_l (x : El) (xs : List El) : merge (x :: xs) [] = x :: merge xs [] := by
  show mergeF (xs.length + 1) (x :: xs) [] = _
  simp only [mergeF]; rw [mergeF_more _ _ _ (by simp)]
theorem merge_r (y : El) (ys : List El) : merge [] (y :: ys) = if 0 < y.2 then y :: merge [] ys else merge [] ys := by
  show mergeF (0 + (ys.length + 1)) [] (y :: ys) = _
  rw [Nat.zero_add]
  simp only [mergeF]; rw [mergeF_more _ _ _ (by simp)]
theorem merge_lr (x y : El) (xs ys : List El) : merge (x :: xs) (y :: ys) =
    if nlt x.1 y.1 then x :: merge xs (y :: ys)
    else if nlt y.1 x.1 then (if 0 < y.2 then y :: merge (x :: xs) ys else merge (x :: xs) ys)
    else (x.1, max x.2 y.2) :: merge xs ys := by
  show mergeF (xs.length + 1 + (ys.length + 1)) (x :: xs) (y :: ys) = _
  rw [show xs.length + 1 + (ys.length + 1) = (xs.length + ys.length + 1) + 1 by omega]
  simp only [mergeF]
  rw [mergeF_more _ xs (y :: ys) (by simp; omega), mergeF_more _ (x :: xs) ys (by simp; omega), mergeF_more _ xs ys (by omega)]

theorem cellsOf_snoc (xs : List El) (x : El) : cellsOf (xs ++ [x]) = cellsOf xs ++ [.string x.1, .int .u64 x.2] := by simp [cellsOf]
/-- What the call has gathered reads as the list. -/
theorem ElsV_own {w : World} {B : Nat} {v : Value} {xs : List El} (h : w.ownsRow B 32 2 v xs.length (cellsOf xs)) : ElsV w v xs := by
  obtain ⟨hl, h2⟩ := h
  rcases h2 with ⟨rfl, h0⟩ | ⟨g, cap, cur, rfl, hb, hg, hn, hm, hs, ht⟩
  · have : xs = [] := List.eq_nil_of_length_eq_zero h0
    subst this
    exact ⟨none, 0, rfl, ⟨fun h => absurd rfl h⟩, Nat.le_refl _⟩
  · refine ⟨some ⟨g, 0, none⟩, cap, rfl, ⟨fun _ => ⟨g, 0, rfl, fun i x hx => ?_⟩⟩, hn⟩
    have hi : i < xs.length := (List.getElem?_eq_some_iff.1 hx).1
    obtain ⟨h1, h2⟩ := cellsOf_get xs i x hx
    rw [← ht] at h1 h2
    rw [List.getElem?_take_of_lt (by omega)] at h1 h2
    have hrow : Row w g cur.toList 32 := by simpa [Row] using hg
    exact ⟨by simpa using hrow.cell h1, by simpa using hrow.cell h2⟩
theorem ElsV.cons_at {w : World} {v : Value} {x : El} {xs : List El} (h : ElsV w v (x :: xs)) : ∃ bk o c, v = .slice (some ⟨bk, o, none⟩) (xs.length + 1) c ∧ w.cell? ⟨bk, o, none⟩ = some (.string x.1) ∧ w.cell? ⟨bk, o + 1, none⟩ = some (.int .u64 x.2) ∧
    xs.length + 1 ≤ c ∧ ElsV w (.slice (some ⟨bk, if c = 1 then o else o + 1 * 2, none⟩) (xs.length + 1 - 1) (c - 1)) xs := by
  obtain ⟨a, c, rfl, he, hc⟩ := h
  obtain ⟨bk, o, e, hcell⟩ := he.ad (by simp)
  cases e
  have h0 := hcell 0 x rfl
  simp only [Nat.zero_mul, Nat.add_zero] at h0
  refine ⟨bk, o, c, rfl, h0.1, h0.2, by simpa using hc, ⟨_, c - 1, rfl, he.tail hc, by simp at hc; omega⟩⟩
theorem ElsV.nil_at {w : World} {v : Value} (h : ElsV w v []) : ∃ a c, v = .slice a 0 c := by
  obtain ⟨a, c, rfl, _, _⟩ := h
  exact ⟨a, c, rfl⟩
end Go.Lx
