import Derived.Test.Qxb6603068aT3
import Derived.Test.Qxb6603068aS8
namespace Go.Lx
open Go.Proofs Go.RowKit

/-! ### Plain: a list of writes -/
def wrs (st : BS) (O : List (Nat × Nat)) : BS := O.foldl (fun s o => wr s o.1 o.2) st
theorem wrs_app (st : BS) (O O' : List (Nat × Nat)) : wrs st (O ++ O') = wrs (wrs st O) O' := by simp [wrs]
theorem wrs_snoc (st : BS) (O : List (Nat × Nat)) (x m : Nat) : wrs st (O ++ [(x, m)]) = wr (wrs st O) x m := by simp [wrs]
theorem wrs_cons (st : BS) (O : List (Nat × Nat)) (x m : Nat) : wrs st ((x, m) :: O) = wrs (wr st x m) O := rfl
def tot : List (Nat × Nat) → Nat
  | [] => 0
  | o :: r => o.2 + tot r
theorem tot_app : ∀ (O O' : List (Nat × Nat)), tot (O ++ O') = tot O + tot O'
  | [], O' => by simp [tot]
  | o :: r, O' => by simp [tot, tot_app r O']; omega
theorem tot_snoc (O : List (Nat × Nat)) (x m : Nat) : tot (O ++ [(x, m)]) = tot O + m := by rw [tot_app]; simp [tot]
theorem tot_rep (x m : Nat) : ∀ j, tot (List.replicate j (x, m)) = j * m
  | 0 => by simp [tot]
  | j + 1 => by rw [List.replicate_succ, tot, tot_rep x m j, Nat.add_mul]; omega
theorem wrs_len : ∀ (O : List (Nat × Nat)) (st : BS), 8 * (wrs st O).bs.length + (wrs st O).n = 8 * st.bs.length + st.n + tot O
  | [], st => by simp [wrs, tot]
  | (x, m) :: r, st => by
    rw [wrs_cons, wrs_len r (wr st x m)]
    simp only [wr, tot, List.length_append, emitJ_len]
    omega
theorem wrs_pre : ∀ (O : List (Nat × Nat)) (st : BS), ∃ E, (wrs st O).bs = st.bs ++ E
  | [], st => ⟨[], by simp [wrs]⟩
  | (x, m) :: r, st => by
    obtain ⟨E, hE⟩ := wrs_pre r (wr st x m)
    refine ⟨emitJ (wrA st.acc x m) (st.n + m) ((st.n + m) / 8) ++ E, ?_⟩
    rw [wrs_cons, hE, ← List.append_assoc]; rfl
/-- The places of the choices, in unary. -/
def choOps : List Int → List Nat → List (Nat × Nat)
  | _, [] => []
  | M, t :: r => (2 ^ (posL t M + 1) - 2, posL t M + 1) :: choOps ((t : Int) :: outL t M) r
/-- A code's lengths, step by step. -/
def deOps : Nat → List Nat → List (Nat × Nat)
  | _, [] => []
  | cur, l :: r => List.replicate (l - cur) (2, 2) ++ (List.replicate (cur - l) (3, 2) ++ (0, 1) :: deOps l r)
def lrow (g : Nat → Nat) (alpha : Nat) : List Nat := (List.range alpha).map g
def codOps (g : Nat → Nat) (alpha : Nat) : List (Nat × Nat) := (g 0, 5) :: deOps (g 0) (lrow g alpha)
def m32 : Nat := 4294967296
/-- What 'next' holds as length l begins. -/
def nx (g : Nat → Nat) (alpha : Nat) : Nat → Nat
  | 0 => 0
  | 1 => 0
  | l + 2 => (nx g alpha (l + 1) + cnt (fun u => g u == l + 1) alpha) % 4294967296 * 2 % 4294967296
def codeOf (g : Nat → Nat) (alpha s : Nat) : Nat := (nx g alpha (g s) + cnt (fun u => g u == g s) s) % 4294967296
structure Src where
  la : Option Addr
  lb : Nat
  lo : Nat
  lc : Nat
  ca : Option Addr
  cb : Nat
  co : Nat
  cc : Nat
  ya : Option Addr
  yb : Nat
  yo : Nat
  yc : Nat
  k : Nat
  alpha : Nat
  f : Nat → Nat → Nat
  ch : List Nat
  ys : List Nat
structure Src.At (s : Src) (w : World) : Prop where
  l : ∀ t u, t < s.k → u < 512 → w.cell? ⟨s.lb, s.lo + (t * 512 + u), none⟩ = some (.int .u8 (s.f t u : Int))
  c : ∀ i, (h : i < s.ch.length) → w.cell? ⟨s.cb, s.co + i, none⟩ = some (.int .u8 (s.ch[i] : Int))
  y : ∀ i, (h : i < s.ys.length) → w.cell? ⟨s.yb, s.yo + i, none⟩ = some (.int .u16 (s.ys[i] : Int))
structure Src.Ok (s : Src) : Prop where
  la : 0 < s.k → s.la = some ⟨s.lb, s.lo, none⟩
  ca : 0 < s.ch.length → s.ca = some ⟨s.cb, s.co, none⟩
  ya : 0 < s.ys.length → s.ya = some ⟨s.yb, s.yo, none⟩
  yc : s.ys.length ≤ s.yc
  k6 : s.k ≤ 6
  al : 0 < s.k → 1 ≤ s.alpha ∧ s.alpha ≤ 512
  f8 : ∀ t u, s.f t u < 256
  cl : s.ch.length ≤ 65536
  yl : s.ys.length ≤ 65536
  ck : ∀ i, (h : i < s.ch.length) → s.ch[i] < s.k
  yk : ∀ i, (h : i < s.ys.length) → s.ys[i] < s.alpha
  cy : s.ch.length = (s.ys.length + 49) / 50
def Src.symOp (s : Src) (C : Nat → Nat → Nat) (i : Nat) : Nat × Nat := (C (s.ch.getD (i / 50) 0) (s.ys.getD i 0), s.f (s.ch.getD (i / 50) 0) (s.ys.getD i 0))
def Src.headOps (s : Src) : List (Nat × Nat) := [(s.k, 3), (s.ch.length, 15)] ++ choOps (iotaL 6) s.ch
def Src.codsOps (s : Src) (t : Nat) : List (Nat × Nat) := s.headOps ++ (List.range t).flatMap fun t => codOps (s.f t) s.alpha
def Src.allOps (s : Src) (C : Nat → Nat → Nat) : List (Nat × Nat) := s.codsOps s.k ++ (List.range s.ys.length).map (s.symOp C)
theorem Src.codsOps_succ (s : Src) (t : Nat) : s.codsOps (t + 1) = s.codsOps t ++ codOps (s.f t) s.alpha := by
  simp [Src.codsOps, List.range_succ]
/-- A cell row of codes. -/
def codC (k : Nat) (F : Nat → Nat) : List Value := (List.range (k * 512)).map fun j => .int .u32 (F j : Int)
def upd (F : Nat → Nat) (j x : Nat) : Nat → Nat := fun i => if i = j then x else F i
theorem codC_get {k : Nat} {F : Nat → Nat} {j : Nat} (h : j < k * 512) : (codC k F)[j]? = some (.int .u32 (F j : Int)) := by simp [codC, h]
theorem codC_len (k : Nat) (F : Nat → Nat) : (codC k F).length = k * 512 := by simp [codC]
theorem codC_set {k : Nat} {F : Nat → Nat} {j x : Nat} (h : j < k * 512) : spl (codC k F) j [.int .u32 (x : Int)] = codC k (upd F j x) := by
  have hfit : j + [Value.int .u32 (x : Int)].length ≤ (codC k F).length := by rw [codC_len]; simp; omega
  apply List.ext_getElem?
  intro i
  by_cases h1 : i < j
  · rw [spl_lt _ _ _ hfit h1, codC_get (by omega), codC_get (by omega), upd, if_neg (by omega)]
  · by_cases h2 : i = j
    · subst h2
      have := spl_in (codC k F) i _ hfit (i := 0) (by simp)
      rw [Nat.add_zero] at this
      rw [this, codC_get h, upd, if_pos rfl]; rfl
    · rw [spl_ge _ _ _ hfit (by simp; omega)]
      by_cases h3 : i < k * 512
      · rw [codC_get h3, codC_get h3, upd, if_neg h2]
      · rw [List.getElem?_eq_none (by rw [codC_len]; omega), List.getElem?_eq_none (by rw [codC_len]; omega)]
theorem make66 : MakeTy Try.prog 66 40 512 2048 (List.replicate 512 (.int .u32 0)) := MakeTy.of (z := .agg (List.replicate 512 (Value.int .u32 0)).toArray) (by kernel_rfl) (by kernel_rfl) (by kernel_rfl) rfl List.length_replicate (by omega)
theorem zero46 : ZeroTy Try.prog 46 (List.replicate 6 (.int .u8 0)) := ZeroTy.of (z := .agg (List.replicate 6 (Value.int .u8 0)).toArray) (by kernel_rfl) rfl
theorem unary_v {p : Nat} (h : p ≤ 5) : IntKind.u64.wrap (IntKind.u64.wrap (1 * 2 ^ (min (((p : Nat) : Int) + 1).toNat IntKind.u64.bits)) - 2) = ((2 ^ (p + 1) - 2 : Nat) : Int) := by
  have : p = 0 ∨ p = 1 ∨ p = 2 ∨ p = 3 ∨ p = 4 ∨ p = 5 := by omega
  rcases this with rfl | rfl | rfl | rfl | rfl | rfl <;> decide
theorem u32_nat (y : Nat) : IntKind.u32.wrap (y : Int) = ((y % 4294967296 : Nat) : Int) := by
  simp [IntKind.wrap, IntKind.bits, IntKind.signed]
theorem bw_o (w : World) (b B : Nat) (v : Value) (st : BS) (O : List (Nat × Nat)) (x m : Nat) (hw : BW B b w v (wrs st O)) (hn : st.n ≤ 7) (hl : st.bs.length ≤ 1048576) (ht : tot O ≤ 67108864) (hm : m ≤ 255) :
    Calls Try.prog 29 #[.pointer (some ⟨b, 0, none⟩), .int .u64 (x : Int), .int .u64 (m : Int)] w fun r w' => r = .returned (.tuple #[]) ∧ ∃ v', BW B b w' v' (wrs st (O ++ [(x, m)])) ∧ BStep b w v w' v' := by
  have := wrs_len O st
  rw [wrs_snoc]
  exact bw_c w b B v (wrs st O) x m hw hm (by omega)
end Go.Lx
