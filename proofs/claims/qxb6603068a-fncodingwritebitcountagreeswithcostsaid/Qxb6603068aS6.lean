import Derived.Test.Qxb6603068aS5
namespace Go.Lx
open Go.Proofs Go.RowKit

/-! ### Plain: what the decoder meets -/
def tailE (used : Nat) (L : List Int) : List Int → List Int
  | [] => [((used + 1 : Nat) : Int)]
  | s :: ss => ((posL s L + 1 : Nat) : Int) :: encG used ss (s :: outL s L) 0
theorem encG_split (used : Nat) (h : Int) (t : List Int) : ∀ (rs : List Int) (z : Nat), ∃ m rest, rs = List.replicate m h ++ rest ∧ rest.head? ≠ some h ∧ encG used rs (h :: t) z = runD (z + m) ++ tailE used (h :: t) rest
  | [], z => ⟨0, [], rfl, by simp, by simp [encG, tailE]⟩
  | r :: rs, z => by
    by_cases e : r = h
    · subst e
      obtain ⟨m, rest, h1, h2, h3⟩ := encG_split used r t rs (z + 1)
      refine ⟨m + 1, rest, by rw [h1, List.replicate_succ]; rfl, h2, ?_⟩
      rw [encG, if_pos (show (r :: t).head? = some r from rfl), h3]
      congr 2
      omega
    · refine ⟨0, r :: rs, rfl, by simpa using e, ?_⟩
      rw [encG, if_neg (by simpa using Ne.symm e)]
      rfl
theorem outL_append {A Z : List Int} {s : Int} (h : s ∈ A) : outL s (A ++ Z) = outL s A ++ Z ∧ posL s (A ++ Z) < A.length := by
  induction A with
  | nil => simp at h
  | cons x r ih =>
    by_cases e : x = s
    · simp [outL, posL, e]
    · have hs : s ∈ r := by
        rcases List.mem_cons.1 h with h | h
        · exact absurd h.symm e
        · exact h
      obtain ⟨h1, h2⟩ := ih hs
      simp [outL, posL, e, h1]
      omega
theorem posL_get : ∀ {L : List Int} {s : Int}, s ∈ L → L[posL s L]? = some s
  | [], s, h => by simp at h
  | x :: r, s, h => by
    by_cases e : x = s
    · simp [posL, e]
    · have hs : s ∈ r := by
        rcases List.mem_cons.1 h with h | h
        · exact absurd h.symm e
        · exact h
      simp [posL, e, posL_get hs]
section
variable {P : Program} {ops : Array Oper} {Q : Exit → Act → World → Prop} {S : World → Prop} {r : List (Oper × Bool)} {b : Bool} {n : Nat} {env : Env} {w : World}
variable {d : Nat} {ty : TypeId} {pos : String} {aft : Array Edge}
theorem run_eq_nilP {t e : TypeId} (ht : P.underlying t = some (.pointer e)) (a : Option Addr) (w : World) : (Op.equal t (.pointer a) (.pointer none)).run P w = .ok a.isNone w := by
  have h : ∀ dp, (Op.equalIn (dp + 1) t (.pointer a) (.pointer none)).run P w = .ok a.isNone w := fun dp => by
    cases a <;> simp [Op.equalIn, run_underlying ht]
  exact h 9999
theorem WL.eqNilP {t t' e : TypeId} {x : Operand} {a : Option Addr} (ht : P.underlying t = some (.pointer e)) (hx : ev env x = some (.pointer a)) (hd : Nat.blt d n = true) (k : WL P ops Q S r n ((d, .bool a.isNone) :: env) w) :
    WL P ops Q S (({ dst := some d, op := .binOp .eql t x (.const (.pointer none)) t', type := ty, pos := pos, after := aft, guard := none }, b) :: r) n env w :=
  WL.pure rfl hd (v := .bool a.isNone) (fun w' ρ hρ => by simp [execOp, hρ x _ hx, hρ (.const (.pointer none)) _ rfl, eqGuard, binOp, run_eq_nilP ht]) k
theorem WL.neqNilP {t t' e : TypeId} {x : Operand} {a : Option Addr} (ht : P.underlying t = some (.pointer e)) (hx : ev env x = some (.pointer a)) (hd : Nat.blt d n = true) (k : WL P ops Q S r n ((d, .bool (!a.isNone)) :: env) w) :
    WL P ops Q S (({ dst := some d, op := .binOp .neq t x (.const (.pointer none)) t', type := ty, pos := pos, after := aft, guard := none }, b) :: r) n env w :=
  WL.pure rfl hd (v := .bool (!a.isNone)) (fun w' ρ hρ => by simp [execOp, hρ x _ hx, hρ (.const (.pointer none)) _ rfl, eqGuard, binOp, run_eq_nilP ht]) k
end
end Go.Lx
