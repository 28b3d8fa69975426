import Derived.Test.Qxb6603068aT5
namespace Go.Lx
open Go.Proofs Go.RowKit

/-! ### The place by recency, among six -/
/-- Where the model stands: 'seen' the row S, the ranks in their order A, the number of ranks met d. -/
structure RSq (k i : Nat) (S A : List Int) (d : Nat) : Prop where
  len : S.length = 6
  pw : A.Pairwise fun v w => bef S v w = true
  pm : A.Perm (iotaL k)
  bd : ∀ v, 0 ≤ sn S v ∧ sn S v ≤ i
  ds : d = A.countP (fun v => decide (0 < sn S v))
theorem RSq.start (k : Nat) : RSq k 0 (List.replicate 6 0) (iotaL k) 0 := by
  have h0 : ∀ v, sn (List.replicate 6 0) v = 0 := by
    intro v
    unfold sn
    rw [List.getElem?_replicate]
    split <;> rfl
  have hl : (List.replicate 6 (0 : Int)).length = 6 := List.length_replicate
  generalize List.replicate 6 (0 : Int) = S at *
  refine ⟨hl, ?_, List.Perm.refl _, fun v => by rw [h0]; simp, ?_⟩
  · unfold iotaL
    rw [List.pairwise_map]
    refine List.Pairwise.imp ?_ List.pairwise_lt_range
    intro a b hab
    simp [bef, h0]; exact hab
  · symm
    rw [List.countP_eq_zero]
    intro v _
    simp [h0]
theorem RSq.mem {k i d : Nat} {S A : List Int} (h : RSq k i S A d) {s : Int} : s ∈ A ↔ 0 ≤ s ∧ s < k := by rw [h.pm.mem_iff]; exact iota_mem
theorem RSq.pos {k i d : Nat} {S A : List Int} (h : RSq k i S A d) {s : Nat} (hs : s < k) :
    posL s A = if 0 < sn S s then cnt (fun v => decide (sn S s < sn S v)) k else d + cnt (fun v => decide (sn S v = 0)) s := by
  have hm : (s : Int) ∈ A := h.mem.2 (by omega)
  rw [posL_count A h.pw hm]
  have hb := h.bd s
  split
  · rename_i hp
    rw [h.pm.countP_eq, cnt_iota]
    refine cnt_congr _ (fun v _ => ?_)
    have : ¬ sn S s = 0 := by omega
    simp [bef, this]
  · rename_i hp
    have hz : sn S s = 0 := by omega
    have e : ∀ v ∈ A, bef S v s = (decide (0 < sn S v) || (decide (sn S v = 0) && decide (v < (s : Int)))) := by
      intro v _
      simp [bef, hz]
    rw [List.countP_congr (q := fun v => decide (0 < sn S v) || (decide (sn S v = 0) && decide (v < (s : Int)))) (fun v hv => by rw [e v hv]),
      countP_two (p := fun v => decide (0 < sn S v)) (q := fun v => decide (sn S v = 0) && decide (v < (s : Int))) A (fun x _ hx => by
        simp only [decide_eq_true_eq] at hx
        have : ¬ sn S x = 0 := by omega
        simp [this]), ← h.ds]
    congr 1
    rw [h.pm.countP_eq, cnt_iota]
    rw [← cnt_cut (fun v => decide (sn S v = 0)) s k (by omega)]
    refine cnt_congr _ (fun v _ => ?_)
    have : decide ((v : Int) < (s : Int)) = decide (v < s) := by rw [decide_eq_decide]; omega
    simp only [this]
theorem RSq.step {k i d : Nat} {S A : List Int} (h : RSq k i S A d) {s : Nat} (hs : s < k) (hk : k ≤ 6) :
    RSq k (i + 1) (S.set s ((i : Int) + 1)) ((s : Int) :: outL s A) (if 0 < sn S s then d else d + 1) := by
  have hm : (s : Int) ∈ A := h.mem.2 (by omega)
  have hns := outL_not (s := (s : Int)) A h.pw
  have hsub := outL_sub A s
  have hl := h.len
  have hsn : ∀ v : Int, 0 ≤ v → sn (S.set s ((i : Int) + 1)) v = if v = s then (i : Int) + 1 else sn S v := fun v hv => sn_set (s := (s : Int)) (by omega) hv (by simp; omega)
  have hne : ∀ v ∈ outL s A, 0 ≤ v ∧ v ≠ s := fun v hv => ⟨(h.mem.1 (hsub.mem hv)).1, fun e => hns (e ▸ hv)⟩
  have hpm := outL_erase A s hm
  refine ⟨by simp [hl], List.pairwise_cons.2 ⟨?_, ?_⟩, hpm.symm.trans h.pm, ?_, ?_⟩
  · intro v hv
    obtain ⟨h1, h2⟩ := hne v hv
    have := (h.bd v).2
    simp only [bef, hsn v h1, hsn s (by omega), if_neg h2, if_true, Bool.or_eq_true, decide_eq_true_eq]
    left; omega
  · refine List.Pairwise.imp_of_mem ?_ (List.Pairwise.sublist hsub h.pw)
    intro v u hv hu hb
    obtain ⟨h1, h2⟩ := hne v hv
    obtain ⟨h3, h4⟩ := hne u hu
    simp only [bef, hsn v h1, hsn u h3, if_neg h2, if_neg h4] at hb ⊢
    exact hb
  · intro v
    have hb := h.bd v
    by_cases e : s = v.toNat
    · have : sn (S.set s ((i : Int) + 1)) v = (i : Int) + 1 := by
        unfold sn
        rw [e, List.getElem?_set_self (by omega)]; rfl
      rw [this]; omega
    · have : sn (S.set s ((i : Int) + 1)) v = sn S v := by
        unfold sn
        rw [List.getElem?_set_ne e]
      rw [this]; omega
  · have h1 : (outL s A).countP (fun v => decide (0 < sn (S.set s ((i : Int) + 1)) v)) = (outL s A).countP (fun v => decide (0 < sn S v)) := by
      refine List.countP_congr (fun v hv => ?_)
      obtain ⟨h1, h2⟩ := hne v hv
      rw [hsn v h1, if_neg h2]
    have h2 := h.ds
    rw [hpm.countP_eq, List.countP_cons] at h2
    rw [List.countP_cons, h1, hsn s (by omega), if_pos rfl]
    have hpos : (0 : Int) < (i : Int) + 1 := by omega
    by_cases hp : 0 < sn S s
    · simp [hp] at h2; simp [hp, hpos]; exact h2
    · simp [hp] at h2; simp [hp, hpos]; exact h2
theorem RSq.dle {k i d : Nat} {S A : List Int} (h : RSq k i S A d) : A.length = k ∧ d ≤ k := by
  have h1 : A.length = k := by rw [h.pm.length_eq]; simp [iotaL]
  refine ⟨h1, ?_⟩
  have := List.countP_le_length (p := fun v => decide (0 < sn S v)) (l := A)
  have := h.ds
  omega
theorem sn_atq {S : List Int} {v : Nat} (h : v < S.length) : sn S (v : Int) = S[v] := by
  unfold sn
  rw [Int.toNat_natCast, List.getElem?_eq_getElem h]; rfl

/-! ### Plain: unary, steps -/
theorem ones_wr {st : BS} (hn : st.n ≤ 7) (ha : st.acc < 18446744073709551616) : ∀ p, p ≤ 50 → wrs st (List.replicate p (1, 1)) = wr st (2 ^ p - 1) p
  | 0, _ => by rw [List.replicate_zero, Nat.pow_zero, Nat.sub_self, wr_zero hn ha]; rfl
  | p + 1, h => by
    have h2 : 0 < 2 ^ p := Nat.pow_pos (by omega)
    rw [List.replicate_succ', wrs_snoc, ones_wr hn ha p (by omega), wr_comp (by omega) (by omega) (by omega)]
    congr 1
    rw [Nat.pow_succ]; omega
theorem unary_wrs {st0 : BS} {O : List (Nat × Nat)} {p : Nat} (hn : (wrs st0 O).n ≤ 7) (ha : (wrs st0 O).acc < 18446744073709551616) (hp : p ≤ 50) : wrs st0 (O ++ List.replicate p (1, 1) ++ [(0, 1)]) = wrs st0 (O ++ [(2 ^ (p + 1) - 2, p + 1)]) := by
  have h2 : 0 < 2 ^ p := Nat.pow_pos (by omega)
  rw [wrs_snoc, wrs_snoc, wrs_app, ones_wr hn ha p hp, wr_comp (by omega) (by omega) (by omega)]
  congr 1
  rw [Nat.pow_succ]; omega
theorem two_wrs {st0 : BS} {O : List (Nat × Nat)} (y : Nat) (hy : y < 2) (hn : (wrs st0 O).n ≤ 7) : wrs st0 (O ++ [(1, 1)] ++ [(y, 1)]) = wrs st0 (O ++ [(2 + y, 2)]) := by
  rw [wrs_snoc, wrs_snoc, wrs_snoc, wr_comp (by omega) (by omega) (by omega)]

/-! ### Plain: the canonical codes by the closed form -/
def ks (g : Nat → Nat) (l : Nat) : Nat → Nat
  | 0 => 0
  | n + 1 => ks g l n + (if g n < l then 2 ^ (l - g n) else 0)
def krf (g : Nat → Nat) : Nat → Nat
  | 0 => 0
  | n + 1 => krf g n + 2 ^ (17 - g n)
theorem ks_step (g : Nat → Nat) (l : Nat) : ∀ n, ks g (l + 1) n = 2 * (ks g l n + cnt (fun u => g u == l) n)
  | 0 => by simp [ks, cnt]
  | n + 1 => by
    rw [ks, ks, cnt, ks_step g l n]
    by_cases h1 : g n < l
    · have e : l + 1 - g n = (l - g n) + 1 := by omega
      have e2 : ¬ g n = l := by omega
      rw [if_pos (by omega), if_pos h1, e, Nat.pow_succ]
      simp [e2]; omega
    · by_cases h2 : g n = l
      · rw [if_pos (by omega), if_neg h1, h2]
        have e : l + 1 - l = 1 := by omega
        rw [e]
        simp; omega
      · rw [if_neg (by omega), if_neg h1]
        simp [h2]
theorem ks_one (g : Nat → Nat) : ∀ n, (∀ u, u < n → 1 ≤ g u) → ks g 1 n = 0
  | 0, _ => rfl
  | n + 1, h => by
    have := h n (by omega)
    rw [ks, ks_one g n (fun u hu => h u (by omega)), if_neg (by omega)]
theorem ks_krf (g : Nat → Nat) {l : Nat} (hl : l ≤ 17) : ∀ n, 2 ^ (17 - l) * (ks g l n + cnt (fun u => g u == l) n) ≤ krf g n
  | 0 => by simp [ks, cnt]
  | n + 1 => by
    have ih := ks_krf g hl n
    rw [ks, cnt, krf]
    by_cases h1 : g n < l
    · have e2 : ¬ g n = l := by omega
      rw [if_pos h1]
      have e : 17 - g n = (17 - l) + (l - g n) := by omega
      rw [e, Nat.pow_add]
      simp only [Nat.mul_add] at ih ⊢
      simp [e2]; omega
    · by_cases h2 : g n = l
      · rw [if_neg h1, h2]
        simp only [Nat.mul_add] at ih ⊢
        simp; omega
      · rw [if_neg h1]
        simp only [Nat.mul_add] at ih ⊢
        simp [h2]
        exact Nat.le_trans ih (Nat.le_add_right _ _)
theorem ks_le {g : Nat → Nat} {l n : Nat} (hl : l ≤ 17) (hk : krf g n ≤ 131072) : ks g l n + cnt (fun u => g u == l) n ≤ 2 ^ l := by
  have h1 := Nat.le_trans (ks_krf g hl n) hk
  have h2 : 131072 = 2 ^ (17 - l) * 2 ^ l := by
    rw [← Nat.pow_add]
    have : 17 - l + l = 17 := by omega
    rw [this]
  rw [h2] at h1
  exact Nat.le_of_mul_le_mul_left h1 (Nat.pow_pos (by omega))
theorem pow17 {l : Nat} (h : l ≤ 17) : 2 ^ l ≤ 131072 := by
  have := Nat.pow_le_pow_right (n := 2) (by omega) h
  simpa using this
theorem nx_ks {g : Nat → Nat} {alpha : Nat} (hg : ∀ u, u < alpha → 1 ≤ g u) (hk : krf g alpha ≤ 131072) : ∀ l, 1 ≤ l → l ≤ 17 → nx g alpha l = ks g l alpha
  | 0, h, _ => by omega
  | 1, _, _ => by rw [nx, ks_one g alpha hg]
  | l + 2, _, h => by
    have ih := nx_ks hg hk (l + 1) (by omega) (by omega)
    have h1 := ks_le (l := l + 1) (by omega) hk
    have h2 := pow17 (l := l + 1) (by omega)
    have e : ks g (l + 2) alpha = 2 * (ks g (l + 1) alpha + cnt (fun u => g u == l + 1) alpha) := ks_step g (l + 1) alpha
    rw [nx, ih, e]
    omega
theorem cnt_mono (f : Nat → Bool) {s : Nat} (hf : f s = true) : ∀ n, s < n → cnt f s + 1 ≤ cnt f n
  | 0, h => by omega
  | n + 1, h => by
    rw [cnt]
    by_cases e : s = n
    · subst e; simp [hf]
    · have := cnt_mono f hf n (by omega)
      omega
/-- The canonical code is the closed form, and fits its length. -/
theorem codeOf_ks {g : Nat → Nat} {alpha s : Nat} (hg : ∀ u, u < alpha → 1 ≤ g u ∧ g u ≤ 17) (hk : krf g alpha ≤ 131072) (hs : s < alpha) : codeOf g alpha s = ks g (g s) alpha + cnt (fun u => g u == g s) s ∧ codeOf g alpha s < 2 ^ g s := by
  obtain ⟨h1, h2⟩ := hg s hs
  have h3 := ks_le (l := g s) h2 hk
  have h4 := pow17 h2
  have h5 := cnt_mono (fun u => g u == g s) (s := s) (by simp) alpha hs
  have h6 := nx_ks (fun u hu => (hg u hu).1) hk (g s) h1 h2
  unfold codeOf
  rw [h6]
  omega

/-! ### Walks: a bit into the model's state -/
theorem shl_or1 (acc x : Nat) : IntKind.u64.wrap ((BitVec.ofInt IntKind.u64.bits (IntKind.u64.wrap ((acc : Int) * 2 ^ (min (1 : Int).toNat IntKind.u64.bits))) ||| BitVec.ofInt IntKind.u64.bits (x : Int)).toNat : Int) = ((wrA acc x 1 : Nat) : Int) := shl_or acc x 1
theorem or_wrap8 (y x : Nat) : IntKind.u8.wrap ((BitVec.ofInt 8 (y : Int) ||| BitVec.ofInt 8 (x : Int)).toNat : Int) = (((y ||| x) % 256 : Nat) : Int) := by
  have h1 : (BitVec.ofInt 8 (y : Int) ||| BitVec.ofInt 8 (x : Int)).toNat = (y ||| x) % 256 := by
    rw [BitVec.toNat_or, BitVec.ofInt_natCast, BitVec.ofInt_natCast, BitVec.toNat_ofNat, BitVec.toNat_ofNat, ← Nat.or_mod_two_pow]
  rw [h1, u8_nat, Nat.mod_mod]
theorem cur_or (c x : Nat) : IntKind.u8.wrap ((BitVec.ofInt IntKind.u8.bits (IntKind.u8.wrap ((c : Int) * 2 ^ (min (1 : Int).toNat IntKind.u8.bits))) ||| BitVec.ofInt IntKind.u8.bits (x : Int)).toNat : Int) = (((c * 2 ||| x) % 256 : Nat) : Int) := by
  have h1 : ((c : Int) * 2 ^ (min (1 : Int).toNat IntKind.u8.bits)) = ((c * 2 : Nat) : Int) := by
    have : min (1 : Int).toNat IntKind.u8.bits = 1 := rfl
    rw [this]; omega
  rw [h1, show IntKind.u8.wrap ((c * 2 : Nat) : Int) = _ from u8_nat _]
  refine (or_wrap8 (c * 2 % 256) x).trans ?_
  congr 1
  have : (256 : Nat) = 2 ^ 8 := rfl
  rw [this, Nat.or_mod_two_pow, Nat.mod_mod, ← Nat.or_mod_two_pow]
theorem or_add {a x : Nat} (h : x < 2) : (a * 2 ||| x) = a * 2 + x := by
  have := Nat.shiftLeft_add_eq_or_of_lt (show x < 2 ^ 1 by omega) a
  rw [Nat.shiftLeft_eq] at this
  exact this.symm
theorem cur_step {acc n x : Nat} (hn : n ≤ 7) (hx : x < 2) : (acc % 2 ^ n * 2 ||| x) % 256 = wrA acc x 1 % 2 ^ (n + 1) := by
  unfold wrA
  rw [or_add hx, Nat.pow_one, or_add hx]
  have : n = 0 ∨ n = 1 ∨ n = 2 ∨ n = 3 ∨ n = 4 ∨ n = 5 ∨ n = 6 ∨ n = 7 := by omega
  rcases this with rfl | rfl | rfl | rfl | rfl | rfl | rfl | rfl <;> simp <;> omega
structure PW (B b : Nat) (w : World) (v : Value) (st : BS) : Prop where
  row : Row w b [v, .int .u8 ((st.acc % 2 ^ st.n : Nat) : Int), .int .u64 (st.n : Int), .int .u64 (st.acc : Int)] 34
  own : w.ownsRow B 5 1 v st.bs.length (st.bs.map (Value.int .u8))
  le : B ≤ w.heap.size
  n7 : st.n ≤ 7
  ac : st.acc < 18446744073709551616
theorem PW.kept {B b : Nat} {w w' : World} {v : Value} {st : BS} {row : Option Nat} (h : PW B b w v st) (hg : w.grownBy w' row) (hb : row ≠ some b) (hv : v.ownBlock = none ∨ v.ownBlock ≠ row) : PW B b w' v st :=
  ⟨h.row.kept hg hb, h.own.kept hg hv, Nat.le_trans h.le hg.size, h.n7, h.ac⟩
theorem PW.up {B b : Nat} {w w' : World} {v : Value} {st : BS} (h : PW B b w v st) (hg : w.grownBy w' none) : PW B b w' v st := h.kept hg (by simp) (by cases v.ownBlock <;> simp)
theorem PW.new {B b g t : Nat} {w w' : World} {v : Value} {st : BS} {cs : List Value} (h : PW B b w v st) (hg : w.grownBy w' (some g)) (hb : g ≠ b) (hr : Row w g cs t) (ht : t ≠ 5) : PW B b w' v st :=
  h.kept hg (fun e => hb (Option.some.inj e)) (.inr (own_ne_row h.own hr ht))
theorem sp0 (a b c d x : Value) : spl [a, b, c, d] 0 [x] = [x, b, c, d] := rfl
theorem sp1 (a b c d x : Value) : spl [a, b, c, d] 1 [x] = [a, x, c, d] := rfl
theorem sp2 (a b c d x : Value) : spl [a, b, c, d] 2 [x] = [a, b, x, d] := rfl
theorem sp3 (a b c d x : Value) : spl [a, b, c, d] 3 [x] = [a, b, c, x] := rfl

set_option maxHeartbeats 1000000 in
theorem put_c (w : World) (b B : Nat) (v : Value) (st : BS) (x : Nat) (hw : PW B b w v st) (hx : x < 2) (hl : st.bs.length ≤ 1099511627776) :
    Calls Try.prog 13 #[.pointer (some ⟨b, 0, none⟩), .int .u64 (x : Int)] w fun r w' => r = .returned (.tuple #[]) ∧ ∃ v', PW B b w' v' (wr st x 1) ∧ BStep b w v w' v' := by
  refine Calls.of_W (args := [.pointer (some ⟨b, 0, none⟩), .int .u64 (x : Int)]) Try.func13 rfl rfl rfl ?_
  have hn7 := hw.n7
  repeat (first | refine WL.move rfl rfl ?_ | refine WL.assign rfl rfl ?_ | refine W.seq ?_ | refine W.region ?_ | refine WL.nil ?_ | refine Post.next ?_ | refine Post.tail ?_ | refine W.cond_t rfl ?_ | refine W.cond_f rfl ?_ | refine W.block ?_ | refine W.skip ?_ | refine W.exit ?_ | refine W.ret ?_ | refine Post.block_exit ?_ | refine Post.block_other rfl ?_ | refine Post.then_exit ?_ | refine Post.then_ret ?_ | refine Post.block_ret ?_ | refine Post.block_normal ?_ | refine WL.lenS (tyS rfl) rfl rfl ?_ | refine WL.lenStr und9 rfl rfl ?_ | refine WL.fieldAddr (tyF rfl) rfl rfl ?_ | refine WL.not rfl rfl ?_ | refine WL.pick_t rfl rfl rfl ?_ | refine WL.pick_f rfl rfl rfl ?_ | refine WL.want rfl rfl ?_ | refine WL.skip rfl rfl rfl rfl ?_ | refine WL.extract rfl rfl rfl ?_ | refine WL.nilCheck rfl rfl ?_)
  refine WL.load (o' := 3) (tyP rfl) rfl (fun _ e => e) (hw.row.cell rfl) (by first | omega | (simp; done) | (simp; omega)) rfl ?_
  repeat (first | refine WL.move rfl rfl ?_ | refine WL.assign rfl rfl ?_ | refine W.seq ?_ | refine W.region ?_ | refine WL.nil ?_ | refine Post.next ?_ | refine Post.tail ?_ | refine W.cond_t rfl ?_ | refine W.cond_f rfl ?_ | refine W.block ?_ | refine W.skip ?_ | refine W.exit ?_ | refine W.ret ?_ | refine Post.block_exit ?_ | refine Post.block_other rfl ?_ | refine Post.then_exit ?_ | refine Post.then_ret ?_ | refine Post.block_ret ?_ | refine Post.block_normal ?_ | refine WL.lenS (tyS rfl) rfl rfl ?_ | refine WL.lenStr und9 rfl rfl ?_ | refine WL.fieldAddr (tyF rfl) rfl rfl ?_ | refine WL.not rfl rfl ?_ | refine WL.pick_t rfl rfl rfl ?_ | refine WL.pick_f rfl rfl rfl ?_ | refine WL.want rfl rfl ?_ | refine WL.skip rfl rfl rfl rfl ?_ | refine WL.extract rfl rfl rfl ?_ | refine WL.nilCheck rfl rfl ?_)
  refine WL.shl rfl rfl (by omega) rfl ?_
  repeat (first | refine WL.move rfl rfl ?_ | refine WL.assign rfl rfl ?_ | refine W.seq ?_ | refine W.region ?_ | refine WL.nil ?_ | refine Post.next ?_ | refine Post.tail ?_ | refine W.cond_t rfl ?_ | refine W.cond_f rfl ?_ | refine W.block ?_ | refine W.skip ?_ | refine W.exit ?_ | refine W.ret ?_ | refine Post.block_exit ?_ | refine Post.block_other rfl ?_ | refine Post.then_exit ?_ | refine Post.then_ret ?_ | refine Post.block_ret ?_ | refine Post.block_normal ?_ | refine WL.lenS (tyS rfl) rfl rfl ?_ | refine WL.lenStr und9 rfl rfl ?_ | refine WL.fieldAddr (tyF rfl) rfl rfl ?_ | refine WL.not rfl rfl ?_ | refine WL.pick_t rfl rfl rfl ?_ | refine WL.pick_f rfl rfl rfl ?_ | refine WL.want rfl rfl ?_ | refine WL.skip rfl rfl rfl rfl ?_ | refine WL.extract rfl rfl rfl ?_ | refine WL.nilCheck rfl rfl ?_)
  refine WL.orI rfl rfl rfl ?_
  rw [shl_or1]
  repeat (first | refine WL.move rfl rfl ?_ | refine WL.assign rfl rfl ?_ | refine W.seq ?_ | refine W.region ?_ | refine WL.nil ?_ | refine Post.next ?_ | refine Post.tail ?_ | refine W.cond_t rfl ?_ | refine W.cond_f rfl ?_ | refine W.block ?_ | refine W.skip ?_ | refine W.exit ?_ | refine W.ret ?_ | refine Post.block_exit ?_ | refine Post.block_other rfl ?_ | refine Post.then_exit ?_ | refine Post.then_ret ?_ | refine Post.block_ret ?_ | refine Post.block_normal ?_ | refine WL.lenS (tyS rfl) rfl rfl ?_ | refine WL.lenStr und9 rfl rfl ?_ | refine WL.fieldAddr (tyF rfl) rfl rfl ?_ | refine WL.not rfl rfl ?_ | refine WL.pick_t rfl rfl rfl ?_ | refine WL.pick_f rfl rfl rfl ?_ | refine WL.want rfl rfl ?_ | refine WL.skip rfl rfl rfl rfl ?_ | refine WL.extract rfl rfl rfl ?_ | refine WL.nilCheck rfl rfl ?_)
  refine WL.store (o' := 3) (tyP rfl) rfl rfl rfl hw.row (by first | omega | (simp; done) | (simp; omega)) (by simp) ?_
  intro w1 hg1 hz1 hr1
  refine ⟨trivial, ?_⟩
  rw [sp3] at hr1
  repeat (first | refine WL.move rfl rfl ?_ | refine WL.assign rfl rfl ?_ | refine W.seq ?_ | refine W.region ?_ | refine WL.nil ?_ | refine Post.next ?_ | refine Post.tail ?_ | refine W.cond_t rfl ?_ | refine W.cond_f rfl ?_ | refine W.block ?_ | refine W.skip ?_ | refine W.exit ?_ | refine W.ret ?_ | refine Post.block_exit ?_ | refine Post.block_other rfl ?_ | refine Post.then_exit ?_ | refine Post.then_ret ?_ | refine Post.block_ret ?_ | refine Post.block_normal ?_ | refine WL.lenS (tyS rfl) rfl rfl ?_ | refine WL.lenStr und9 rfl rfl ?_ | refine WL.fieldAddr (tyF rfl) rfl rfl ?_ | refine WL.not rfl rfl ?_ | refine WL.pick_t rfl rfl rfl ?_ | refine WL.pick_f rfl rfl rfl ?_ | refine WL.want rfl rfl ?_ | refine WL.skip rfl rfl rfl rfl ?_ | refine WL.extract rfl rfl rfl ?_ | refine WL.nilCheck rfl rfl ?_)
  refine WL.load (o' := 1) (tyP rfl) rfl (fun _ e => e) (hr1.cell rfl) (by first | omega | (simp; done) | (simp; omega)) rfl ?_
  repeat (first | refine WL.move rfl rfl ?_ | refine WL.assign rfl rfl ?_ | refine W.seq ?_ | refine W.region ?_ | refine WL.nil ?_ | refine Post.next ?_ | refine Post.tail ?_ | refine W.cond_t rfl ?_ | refine W.cond_f rfl ?_ | refine W.block ?_ | refine W.skip ?_ | refine W.exit ?_ | refine W.ret ?_ | refine Post.block_exit ?_ | refine Post.block_other rfl ?_ | refine Post.then_exit ?_ | refine Post.then_ret ?_ | refine Post.block_ret ?_ | refine Post.block_normal ?_ | refine WL.lenS (tyS rfl) rfl rfl ?_ | refine WL.lenStr und9 rfl rfl ?_ | refine WL.fieldAddr (tyF rfl) rfl rfl ?_ | refine WL.not rfl rfl ?_ | refine WL.pick_t rfl rfl rfl ?_ | refine WL.pick_f rfl rfl rfl ?_ | refine WL.want rfl rfl ?_ | refine WL.skip rfl rfl rfl rfl ?_ | refine WL.extract rfl rfl rfl ?_ | refine WL.nilCheck rfl rfl ?_)
  refine WL.shl rfl rfl (by omega) rfl ?_
  repeat (first | refine WL.move rfl rfl ?_ | refine WL.assign rfl rfl ?_ | refine W.seq ?_ | refine W.region ?_ | refine WL.nil ?_ | refine Post.next ?_ | refine Post.tail ?_ | refine W.cond_t rfl ?_ | refine W.cond_f rfl ?_ | refine W.block ?_ | refine W.skip ?_ | refine W.exit ?_ | refine W.ret ?_ | refine Post.block_exit ?_ | refine Post.block_other rfl ?_ | refine Post.then_exit ?_ | refine Post.then_ret ?_ | refine Post.block_ret ?_ | refine Post.block_normal ?_ | refine WL.lenS (tyS rfl) rfl rfl ?_ | refine WL.lenStr und9 rfl rfl ?_ | refine WL.fieldAddr (tyF rfl) rfl rfl ?_ | refine WL.not rfl rfl ?_ | refine WL.pick_t rfl rfl rfl ?_ | refine WL.pick_f rfl rfl rfl ?_ | refine WL.want rfl rfl ?_ | refine WL.skip rfl rfl rfl rfl ?_ | refine WL.extract rfl rfl rfl ?_ | refine WL.nilCheck rfl rfl ?_)
  refine WL.conv' (kd' := .u8) (tyI rfl) (tyI rfl) rfl (u8w (by omega) (by omega)) rfl ?_
  refine WL.orI rfl rfl rfl ?_
  rw [cur_or, cur_step hn7 hx]
  repeat (first | refine WL.move rfl rfl ?_ | refine WL.assign rfl rfl ?_ | refine W.seq ?_ | refine W.region ?_ | refine WL.nil ?_ | refine Post.next ?_ | refine Post.tail ?_ | refine W.cond_t rfl ?_ | refine W.cond_f rfl ?_ | refine W.block ?_ | refine W.skip ?_ | refine W.exit ?_ | refine W.ret ?_ | refine Post.block_exit ?_ | refine Post.block_other rfl ?_ | refine Post.then_exit ?_ | refine Post.then_ret ?_ | refine Post.block_ret ?_ | refine Post.block_normal ?_ | refine WL.lenS (tyS rfl) rfl rfl ?_ | refine WL.lenStr und9 rfl rfl ?_ | refine WL.fieldAddr (tyF rfl) rfl rfl ?_ | refine WL.not rfl rfl ?_ | refine WL.pick_t rfl rfl rfl ?_ | refine WL.pick_f rfl rfl rfl ?_ | refine WL.want rfl rfl ?_ | refine WL.skip rfl rfl rfl rfl ?_ | refine WL.extract rfl rfl rfl ?_ | refine WL.nilCheck rfl rfl ?_)
  refine WL.store (o' := 1) (tyP rfl) rfl rfl rfl hr1 (by first | omega | (simp; done) | (simp; omega)) (by simp) ?_
  intro w2 hg2 hz2 hr2
  refine ⟨trivial, ?_⟩
  rw [sp1] at hr2
  repeat (first | refine WL.move rfl rfl ?_ | refine WL.assign rfl rfl ?_ | refine W.seq ?_ | refine W.region ?_ | refine WL.nil ?_ | refine Post.next ?_ | refine Post.tail ?_ | refine W.cond_t rfl ?_ | refine W.cond_f rfl ?_ | refine W.block ?_ | refine W.skip ?_ | refine W.exit ?_ | refine W.ret ?_ | refine Post.block_exit ?_ | refine Post.block_other rfl ?_ | refine Post.then_exit ?_ | refine Post.then_ret ?_ | refine Post.block_ret ?_ | refine Post.block_normal ?_ | refine WL.lenS (tyS rfl) rfl rfl ?_ | refine WL.lenStr und9 rfl rfl ?_ | refine WL.fieldAddr (tyF rfl) rfl rfl ?_ | refine WL.not rfl rfl ?_ | refine WL.pick_t rfl rfl rfl ?_ | refine WL.pick_f rfl rfl rfl ?_ | refine WL.want rfl rfl ?_ | refine WL.skip rfl rfl rfl rfl ?_ | refine WL.extract rfl rfl rfl ?_ | refine WL.nilCheck rfl rfl ?_)
  refine WL.load (o' := 2) (tyP rfl) rfl (fun _ e => e) (hr2.cell rfl) (by first | omega | (simp; done) | (simp; omega)) rfl ?_
  repeat (first | refine WL.move rfl rfl ?_ | refine WL.assign rfl rfl ?_ | refine W.seq ?_ | refine W.region ?_ | refine WL.nil ?_ | refine Post.next ?_ | refine Post.tail ?_ | refine W.cond_t rfl ?_ | refine W.cond_f rfl ?_ | refine W.block ?_ | refine W.skip ?_ | refine W.exit ?_ | refine W.ret ?_ | refine Post.block_exit ?_ | refine Post.block_other rfl ?_ | refine Post.then_exit ?_ | refine Post.then_ret ?_ | refine Post.block_ret ?_ | refine Post.block_normal ?_ | refine WL.lenS (tyS rfl) rfl rfl ?_ | refine WL.lenStr und9 rfl rfl ?_ | refine WL.fieldAddr (tyF rfl) rfl rfl ?_ | refine WL.not rfl rfl ?_ | refine WL.pick_t rfl rfl rfl ?_ | refine WL.pick_f rfl rfl rfl ?_ | refine WL.want rfl rfl ?_ | refine WL.skip rfl rfl rfl rfl ?_ | refine WL.extract rfl rfl rfl ?_ | refine WL.nilCheck rfl rfl ?_)
  refine WL.add rfl rfl rfl ?_
  rw [u64w (by omega) (by omega)]
  repeat (first | refine WL.move rfl rfl ?_ | refine WL.assign rfl rfl ?_ | refine W.seq ?_ | refine W.region ?_ | refine WL.nil ?_ | refine Post.next ?_ | refine Post.tail ?_ | refine W.cond_t rfl ?_ | refine W.cond_f rfl ?_ | refine W.block ?_ | refine W.skip ?_ | refine W.exit ?_ | refine W.ret ?_ | refine Post.block_exit ?_ | refine Post.block_other rfl ?_ | refine Post.then_exit ?_ | refine Post.then_ret ?_ | refine Post.block_ret ?_ | refine Post.block_normal ?_ | refine WL.lenS (tyS rfl) rfl rfl ?_ | refine WL.lenStr und9 rfl rfl ?_ | refine WL.fieldAddr (tyF rfl) rfl rfl ?_ | refine WL.not rfl rfl ?_ | refine WL.pick_t rfl rfl rfl ?_ | refine WL.pick_f rfl rfl rfl ?_ | refine WL.want rfl rfl ?_ | refine WL.skip rfl rfl rfl rfl ?_ | refine WL.extract rfl rfl rfl ?_ | refine WL.nilCheck rfl rfl ?_)
  refine WL.store (o' := 2) (tyP rfl) rfl rfl rfl hr2 (by first | omega | (simp; done) | (simp; omega)) (by simp) ?_
  intro w3 hg3 hz3 hr3
  refine ⟨trivial, ?_⟩
  rw [sp2] at hr3
  have ho1 := hw.own.kept hg1 (.inr (own_ne_row hw.own hw.row (by decide)))
  have ho2 := ho1.kept hg2 (.inr (own_ne_row ho1 hr1 (by decide)))
  have ho3 := ho2.kept hg3 (.inr (own_ne_row ho2 hr2 (by decide)))
  have hs3 : BStep b w v w3 v := (((BStep.refl b w v).own hg1).own hg2).own hg3
  have hA := wrA_lt st.acc x 1
  generalize hAd : wrA st.acc x 1 = A at *
  repeat (first | refine WL.move rfl rfl ?_ | refine WL.assign rfl rfl ?_ | refine W.seq ?_ | refine W.region ?_ | refine WL.nil ?_ | refine Post.next ?_ | refine Post.tail ?_ | refine W.cond_t rfl ?_ | refine W.cond_f rfl ?_ | refine W.block ?_ | refine W.skip ?_ | refine W.exit ?_ | refine W.ret ?_ | refine Post.block_exit ?_ | refine Post.block_other rfl ?_ | refine Post.then_exit ?_ | refine Post.then_ret ?_ | refine Post.block_ret ?_ | refine Post.block_normal ?_ | refine WL.lenS (tyS rfl) rfl rfl ?_ | refine WL.lenStr und9 rfl rfl ?_ | refine WL.fieldAddr (tyF rfl) rfl rfl ?_ | refine WL.not rfl rfl ?_ | refine WL.pick_t rfl rfl rfl ?_ | refine WL.pick_f rfl rfl rfl ?_ | refine WL.want rfl rfl ?_ | refine WL.skip rfl rfl rfl rfl ?_ | refine WL.extract rfl rfl rfl ?_ | refine WL.nilCheck rfl rfl ?_)
  refine WL.load (o' := 2) (tyP rfl) rfl (fun _ e => e) (hr3.cell rfl) (by first | omega | (simp; done) | (simp; omega)) rfl ?_
  repeat (first | refine WL.move rfl rfl ?_ | refine WL.assign rfl rfl ?_ | refine W.seq ?_ | refine W.region ?_ | refine WL.nil ?_ | refine Post.next ?_ | refine Post.tail ?_ | refine W.cond_t rfl ?_ | refine W.cond_f rfl ?_ | refine W.block ?_ | refine W.skip ?_ | refine W.exit ?_ | refine W.ret ?_ | refine Post.block_exit ?_ | refine Post.block_other rfl ?_ | refine Post.then_exit ?_ | refine Post.then_ret ?_ | refine Post.block_ret ?_ | refine Post.block_normal ?_ | refine WL.lenS (tyS rfl) rfl rfl ?_ | refine WL.lenStr und9 rfl rfl ?_ | refine WL.fieldAddr (tyF rfl) rfl rfl ?_ | refine WL.not rfl rfl ?_ | refine WL.pick_t rfl rfl rfl ?_ | refine WL.pick_f rfl rfl rfl ?_ | refine WL.want rfl rfl ?_ | refine WL.skip rfl rfl rfl rfl ?_ | refine WL.extract rfl rfl rfl ?_ | refine WL.nilCheck rfl rfl ?_)
  refine WL.eqI rfl rfl rfl (fun he => ?_) (fun hne => ?_)
  · have hn : st.n = 7 := by omega
    have hr3d := hr3.up (Up.drew w3)
    have ho3d := ownsRow_up ho3 (Up.drew w3)
    have hs3d := hs3.drew
    have hB3 : B ≤ w3.drew.heap.size := Nat.le_trans hw.le hs3d.size
    repeat (first | refine WL.move rfl rfl ?_ | refine WL.assign rfl rfl ?_ | refine W.seq ?_ | refine W.region ?_ | refine WL.nil ?_ | refine Post.next ?_ | refine Post.tail ?_ | refine W.cond_t rfl ?_ | refine W.cond_f rfl ?_ | refine W.block ?_ | refine W.skip ?_ | refine W.exit ?_ | refine W.ret ?_ | refine Post.block_exit ?_ | refine Post.block_other rfl ?_ | refine Post.then_exit ?_ | refine Post.then_ret ?_ | refine Post.block_ret ?_ | refine Post.block_normal ?_ | refine WL.lenS (tyS rfl) rfl rfl ?_ | refine WL.lenStr und9 rfl rfl ?_ | refine WL.fieldAddr (tyF rfl) rfl rfl ?_ | refine WL.not rfl rfl ?_ | refine WL.pick_t rfl rfl rfl ?_ | refine WL.pick_f rfl rfl rfl ?_ | refine WL.want rfl rfl ?_ | refine WL.skip rfl rfl rfl rfl ?_ | refine WL.extract rfl rfl rfl ?_ | refine WL.nilCheck rfl rfl ?_)
    refine W.region_f [(0, true), (1, true), (2, true), (3, true), (4, true), (5, true), (6, true), (7, true), (8, true), (9, false), (10, false)] [11, 12, 13] (fun w' => Row w' b [v, .int .u8 ((A % 2 ^ (st.n + 1) : Nat) : Int), .int .u64 ((st.n : Int) + 1), .int .u64 (A : Int)] 34) mixed (by kernel_rfl) hr3d ?_
    repeat (first | refine WL.move rfl rfl ?_ | refine WL.assign rfl rfl ?_ | refine W.seq ?_ | refine W.region ?_ | refine WL.nil ?_ | refine Post.next ?_ | refine Post.tail ?_ | refine W.cond_t rfl ?_ | refine W.cond_f rfl ?_ | refine W.block ?_ | refine W.skip ?_ | refine W.exit ?_ | refine W.ret ?_ | refine Post.block_exit ?_ | refine Post.block_other rfl ?_ | refine Post.then_exit ?_ | refine Post.then_ret ?_ | refine Post.block_ret ?_ | refine Post.block_normal ?_ | refine WL.lenS (tyS rfl) rfl rfl ?_ | refine WL.lenStr und9 rfl rfl ?_ | refine WL.fieldAddr (tyF rfl) rfl rfl ?_ | refine WL.not rfl rfl ?_ | refine WL.pick_t rfl rfl rfl ?_ | refine WL.pick_f rfl rfl rfl ?_ | refine WL.want rfl rfl ?_ | refine WL.skip rfl rfl rfl rfl ?_ | refine WL.extract rfl rfl rfl ?_ | refine WL.nilCheck rfl rfl ?_)
    refine WL.loadC (o' := 0) (tyP rfl) rfl (fun w' h => Row.cell h rfl) (by first | omega | (simp; done) | (simp; omega)) rfl ?_
    repeat (first | refine WL.move rfl rfl ?_ | refine WL.assign rfl rfl ?_ | refine W.seq ?_ | refine W.region ?_ | refine WL.nil ?_ | refine Post.next ?_ | refine Post.tail ?_ | refine W.cond_t rfl ?_ | refine W.cond_f rfl ?_ | refine W.block ?_ | refine W.skip ?_ | refine W.exit ?_ | refine W.ret ?_ | refine Post.block_exit ?_ | refine Post.block_other rfl ?_ | refine Post.then_exit ?_ | refine Post.then_ret ?_ | refine Post.block_ret ?_ | refine Post.block_normal ?_ | refine WL.lenS (tyS rfl) rfl rfl ?_ | refine WL.lenStr und9 rfl rfl ?_ | refine WL.fieldAddr (tyF rfl) rfl rfl ?_ | refine WL.not rfl rfl ?_ | refine WL.pick_t rfl rfl rfl ?_ | refine WL.pick_f rfl rfl rfl ?_ | refine WL.want rfl rfl ?_ | refine WL.skip rfl rfl rfl rfl ?_ | refine WL.extract rfl rfl rfl ?_ | refine WL.nilCheck rfl rfl ?_)
    refine WL.loadC (o' := 1) (tyP rfl) rfl (fun w' h => Row.cell h rfl) (by first | omega | (simp; done) | (simp; omega)) rfl ?_
    repeat (first | refine WL.move rfl rfl ?_ | refine WL.assign rfl rfl ?_ | refine W.seq ?_ | refine W.region ?_ | refine WL.nil ?_ | refine Post.next ?_ | refine Post.tail ?_ | refine W.cond_t rfl ?_ | refine W.cond_f rfl ?_ | refine W.block ?_ | refine W.skip ?_ | refine W.exit ?_ | refine W.ret ?_ | refine Post.block_exit ?_ | refine Post.block_other rfl ?_ | refine Post.then_exit ?_ | refine Post.then_ret ?_ | refine Post.block_ret ?_ | refine Post.block_normal ?_ | refine WL.lenS (tyS rfl) rfl rfl ?_ | refine WL.lenStr und9 rfl rfl ?_ | refine WL.fieldAddr (tyF rfl) rfl rfl ?_ | refine WL.not rfl rfl ?_ | refine WL.pick_t rfl rfl rfl ?_ | refine WL.pick_f rfl rfl rfl ?_ | refine WL.want rfl rfl ?_ | refine WL.skip rfl rfl rfl rfl ?_ | refine WL.extract rfl rfl rfl ?_ | refine WL.nilCheck rfl rfl ?_)
    refine WL.buildSlice1 make23 rfl rfl rfl ?_
    intro wb hgb hzb hrb
    refine ⟨hr3d.up (Up.grown hgb), ?_⟩
    have hob := ownsRow_up ho3d (Up.grown hgb)
    have hrb3 := hr3d.up (Up.grown hgb)
    have hBb : B ≤ wb.heap.size := Nat.le_trans hB3 hgb.size
    refine WL.appendL make23 rfl rfl hob hrb rfl (by simp [Value.oneCell']) (by omega) (by omega) hBb rfl ?_
    intro u' wc hoc hgc hlc _
    have hrc := hrb3.kept hgc (own_ne_row hob hrb3 (by decide))
    refine ⟨hrc, ?_⟩
    repeat (first | refine WL.move rfl rfl ?_ | refine WL.assign rfl rfl ?_ | refine W.seq ?_ | refine W.region ?_ | refine WL.nil ?_ | refine Post.next ?_ | refine Post.tail ?_ | refine W.cond_t rfl ?_ | refine W.cond_f rfl ?_ | refine W.block ?_ | refine W.skip ?_ | refine W.exit ?_ | refine W.ret ?_ | refine Post.block_exit ?_ | refine Post.block_other rfl ?_ | refine Post.then_exit ?_ | refine Post.then_ret ?_ | refine Post.block_ret ?_ | refine Post.block_normal ?_ | refine WL.lenS (tyS rfl) rfl rfl ?_ | refine WL.lenStr und9 rfl rfl ?_ | refine WL.fieldAddr (tyF rfl) rfl rfl ?_ | refine WL.not rfl rfl ?_ | refine WL.pick_t rfl rfl rfl ?_ | refine WL.pick_f rfl rfl rfl ?_ | refine WL.want rfl rfl ?_ | refine WL.skip rfl rfl rfl rfl ?_ | refine WL.extract rfl rfl rfl ?_ | refine WL.nilCheck rfl rfl ?_)
    refine Post.fin ?_
    repeat (first | refine WL.move rfl rfl ?_ | refine WL.assign rfl rfl ?_ | refine W.seq ?_ | refine W.region ?_ | refine WL.nil ?_ | refine Post.next ?_ | refine Post.tail ?_ | refine W.cond_t rfl ?_ | refine W.cond_f rfl ?_ | refine W.block ?_ | refine W.skip ?_ | refine W.exit ?_ | refine W.ret ?_ | refine Post.block_exit ?_ | refine Post.block_other rfl ?_ | refine Post.then_exit ?_ | refine Post.then_ret ?_ | refine Post.block_ret ?_ | refine Post.block_normal ?_ | refine WL.lenS (tyS rfl) rfl rfl ?_ | refine WL.lenStr und9 rfl rfl ?_ | refine WL.fieldAddr (tyF rfl) rfl rfl ?_ | refine WL.not rfl rfl ?_ | refine WL.pick_t rfl rfl rfl ?_ | refine WL.pick_f rfl rfl rfl ?_ | refine WL.want rfl rfl ?_ | refine WL.skip rfl rfl rfl rfl ?_ | refine WL.extract rfl rfl rfl ?_ | refine WL.nilCheck rfl rfl ?_)
    refine WL.store (o' := 0) (tyP rfl) rfl rfl (ownOne hoc) hrc (by first | omega | (simp; done) | (simp; omega)) (by simp) ?_
    intro w4 hg4 hz4 hr4
    refine ⟨trivial, ?_⟩
    rw [sp0] at hr4
    have ho4 := (own_int_snoc hoc).kept hg4 (.inr (own_ne_row hoc hrc (by decide)))
    have hs4 := (hs3d.app hgb hgc hlc).own hg4
    repeat (first | refine WL.move rfl rfl ?_ | refine WL.assign rfl rfl ?_ | refine W.seq ?_ | refine W.region ?_ | refine WL.nil ?_ | refine Post.next ?_ | refine Post.tail ?_ | refine W.cond_t rfl ?_ | refine W.cond_f rfl ?_ | refine W.block ?_ | refine W.skip ?_ | refine W.exit ?_ | refine W.ret ?_ | refine Post.block_exit ?_ | refine Post.block_other rfl ?_ | refine Post.then_exit ?_ | refine Post.then_ret ?_ | refine Post.block_ret ?_ | refine Post.block_normal ?_ | refine WL.lenS (tyS rfl) rfl rfl ?_ | refine WL.lenStr und9 rfl rfl ?_ | refine WL.fieldAddr (tyF rfl) rfl rfl ?_ | refine WL.not rfl rfl ?_ | refine WL.pick_t rfl rfl rfl ?_ | refine WL.pick_f rfl rfl rfl ?_ | refine WL.want rfl rfl ?_ | refine WL.skip rfl rfl rfl rfl ?_ | refine WL.extract rfl rfl rfl ?_ | refine WL.nilCheck rfl rfl ?_)
    refine WL.store (o' := 1) (tyP rfl) rfl rfl rfl hr4 (by first | omega | (simp; done) | (simp; omega)) (by simp) ?_
    intro w5 hg5 hz5 hr5
    refine ⟨trivial, ?_⟩
    rw [sp1] at hr5
    have ho5 := ho4.kept hg5 (.inr (own_ne_row ho4 hr4 (by decide)))
    have hs5 := hs4.own hg5
    repeat (first | refine WL.move rfl rfl ?_ | refine WL.assign rfl rfl ?_ | refine W.seq ?_ | refine W.region ?_ | refine WL.nil ?_ | refine Post.next ?_ | refine Post.tail ?_ | refine W.cond_t rfl ?_ | refine W.cond_f rfl ?_ | refine W.block ?_ | refine W.skip ?_ | refine W.exit ?_ | refine W.ret ?_ | refine Post.block_exit ?_ | refine Post.block_other rfl ?_ | refine Post.then_exit ?_ | refine Post.then_ret ?_ | refine Post.block_ret ?_ | refine Post.block_normal ?_ | refine WL.lenS (tyS rfl) rfl rfl ?_ | refine WL.lenStr und9 rfl rfl ?_ | refine WL.fieldAddr (tyF rfl) rfl rfl ?_ | refine WL.not rfl rfl ?_ | refine WL.pick_t rfl rfl rfl ?_ | refine WL.pick_f rfl rfl rfl ?_ | refine WL.want rfl rfl ?_ | refine WL.skip rfl rfl rfl rfl ?_ | refine WL.extract rfl rfl rfl ?_ | refine WL.nilCheck rfl rfl ?_)
    refine WL.store (o' := 2) (tyP rfl) rfl rfl rfl hr5 (by first | omega | (simp; done) | (simp; omega)) (by simp) ?_
    intro w6 hg6 hz6 hr6
    refine ⟨trivial, ?_⟩
    rw [sp2] at hr6
    have ho6 := ho5.kept hg6 (.inr (own_ne_row ho5 hr5 (by decide)))
    have hs6 := hs5.own hg6
    repeat (first | refine WL.move rfl rfl ?_ | refine WL.assign rfl rfl ?_ | refine W.seq ?_ | refine W.region ?_ | refine WL.nil ?_ | refine Post.next ?_ | refine Post.tail ?_ | refine W.cond_t rfl ?_ | refine W.cond_f rfl ?_ | refine W.block ?_ | refine W.skip ?_ | refine W.exit ?_ | refine W.ret ?_ | refine Post.block_exit ?_ | refine Post.block_other rfl ?_ | refine Post.then_exit ?_ | refine Post.then_ret ?_ | refine Post.block_ret ?_ | refine Post.block_normal ?_ | refine WL.lenS (tyS rfl) rfl rfl ?_ | refine WL.lenStr und9 rfl rfl ?_ | refine WL.fieldAddr (tyF rfl) rfl rfl ?_ | refine WL.not rfl rfl ?_ | refine WL.pick_t rfl rfl rfl ?_ | refine WL.pick_f rfl rfl rfl ?_ | refine WL.want rfl rfl ?_ | refine WL.skip rfl rfl rfl rfl ?_ | refine WL.extract rfl rfl rfl ?_ | refine WL.nilCheck rfl rfl ?_)
    have hwr : wr st x 1 = ⟨st.bs ++ [((A % 2 ^ (st.n + 1) : Nat) : Int)], A, 0⟩ := by
      unfold wr
      rw [hAd, hn]
      simp [emitJ]
    rw [hwr]
    refine Post.end0 rfl ⟨rfl, u', ⟨?_, ho6, Nat.le_trans hw.le hs6.size, by simp, hA⟩, hs6⟩
    show Row w6 b [u', .int .u8 ((A % 2 ^ 0 : Nat) : Int), .int .u64 ((0 : Nat) : Int), .int .u64 (A : Int)] 34
    rw [Nat.pow_zero, Nat.mod_one]
    exact hr6
  · repeat (first | refine WL.move rfl rfl ?_ | refine WL.assign rfl rfl ?_ | refine W.seq ?_ | refine W.region ?_ | refine WL.nil ?_ | refine Post.next ?_ | refine Post.tail ?_ | refine W.cond_t rfl ?_ | refine W.cond_f rfl ?_ | refine W.block ?_ | refine W.skip ?_ | refine W.exit ?_ | refine W.ret ?_ | refine Post.block_exit ?_ | refine Post.block_other rfl ?_ | refine Post.then_exit ?_ | refine Post.then_ret ?_ | refine Post.block_ret ?_ | refine Post.block_normal ?_ | refine WL.lenS (tyS rfl) rfl rfl ?_ | refine WL.lenStr und9 rfl rfl ?_ | refine WL.fieldAddr (tyF rfl) rfl rfl ?_ | refine WL.not rfl rfl ?_ | refine WL.pick_t rfl rfl rfl ?_ | refine WL.pick_f rfl rfl rfl ?_ | refine WL.want rfl rfl ?_ | refine WL.skip rfl rfl rfl rfl ?_ | refine WL.extract rfl rfl rfl ?_ | refine WL.nilCheck rfl rfl ?_)
    have hwr : wr st x 1 = ⟨st.bs, A, st.n + 1⟩ := by
      unfold wr
      have e1 : (st.n + 1) / 8 = 0 := by omega
      have e2 : (st.n + 1) % 8 = st.n + 1 := by omega
      rw [hAd, e1, e2]
      simp [emitJ]
    rw [hwr]
    exact Post.end0 rfl ⟨rfl, v, ⟨hr3, ho3, Nat.le_trans hw.le hs3.size, by show st.n + 1 ≤ 7; omega, hA⟩, hs3⟩
theorem and1u (y : Nat) : IntKind.u64.wrap ((BitVec.ofInt IntKind.u64.bits (y : Int) &&& BitVec.ofInt IntKind.u64.bits 1).toNat : Int) = ((y % 2 : Nat) : Int) := by
  have h1 : (BitVec.ofInt 64 (y : Int) &&& BitVec.ofInt 64 1).toNat = y % 2 := by
    rw [BitVec.toNat_and, BitVec.ofInt_natCast, BitVec.toNat_ofNat]
    have : (BitVec.ofInt 64 1).toNat = 1 := rfl
    rw [this, Nat.and_one_is_mod]
    omega
  show IntKind.u64.wrap ((BitVec.ofInt 64 (y : Int) &&& BitVec.ofInt 64 1).toNat : Int) = _
  rw [h1]
  exact u64w (by omega) (by omega)
theorem putsFrom_succ (x i : Nat) (st : BS) : putsFrom x (i + 1) st = putsFrom x i (wr st (x / 2 ^ i % 2) 1) := rfl
theorem putN_c (w : World) (b B : Nat) (v : Value) (st : BS) (x m : Nat) (hw : PW B b w v st) (hx : x < 2 ^ m) (hm : m ≤ 57) (hl : st.bs.length ≤ 68719476736) :
    Calls Try.prog 12 #[.pointer (some ⟨b, 0, none⟩), .int .u64 (x : Int), .int .i64 (m : Int)] w fun r w' => r = .returned (.tuple #[]) ∧ ∃ v', PW B b w' v' (wr st x m) ∧ BStep b w v w' v' := by
  refine Calls.of_W (args := [.pointer (some ⟨b, 0, none⟩), .int .u64 (x : Int), .int .i64 (m : Int)]) Try.func12 rfl rfl rfl ?_
  have hx64 : x < 18446744073709551616 := Nat.lt_of_lt_of_le hx (by rw [← two64]; exact Nat.pow_le_pow_right (by omega) (by omega))
  repeat (first | refine WL.move rfl rfl ?_ | refine WL.assign rfl rfl ?_ | refine W.seq ?_ | refine W.region ?_ | refine WL.nil ?_ | refine Post.next ?_ | refine Post.tail ?_ | refine W.cond_t rfl ?_ | refine W.cond_f rfl ?_ | refine W.block ?_ | refine W.skip ?_ | refine W.exit ?_ | refine W.ret ?_ | refine Post.block_exit ?_ | refine Post.block_other rfl ?_ | refine Post.then_exit ?_ | refine Post.then_ret ?_ | refine Post.block_ret ?_ | refine Post.block_normal ?_ | refine WL.lenS (tyS rfl) rfl rfl ?_ | refine WL.lenStr und9 rfl rfl ?_ | refine WL.fieldAddr (tyF rfl) rfl rfl ?_ | refine WL.not rfl rfl ?_ | refine WL.pick_t rfl rfl rfl ?_ | refine WL.pick_f rfl rfl rfl ?_ | refine WL.want rfl rfl ?_ | refine WL.skip rfl rfl rfl rfl ?_ | refine WL.extract rfl rfl rfl ?_ | refine WL.nilCheck rfl rfl ?_)
  refine W.loop3 (fun (i : Nat) (_ : BS) (_ : Value) => [(0, .pointer (some ⟨b, 0, none⟩)), (1, .int .u64 (x : Int)), (6, .int .i64 i)])
    (fun i c u wx => i ≤ m ∧ putsFrom x i c = putsFrom x m st ∧ c.bs.length ≤ st.bs.length + (m - i) ∧ PW B b wx u c ∧ BStep b w v wx u) (fun i _ _ => i) m st v ⟨rfl, rfl, rfl, trivial⟩
    ⟨Nat.le_refl _, rfl, by omega, hw, BStep.refl b w v⟩ ?_
  rintro i c u wx ⟨hi, hp, hcl, hpw, hs⟩
  repeat (first | refine WL.move rfl rfl ?_ | refine WL.assign rfl rfl ?_ | refine W.seq ?_ | refine W.region ?_ | refine WL.nil ?_ | refine Post.next ?_ | refine Post.tail ?_ | refine W.cond_t rfl ?_ | refine W.cond_f rfl ?_ | refine W.block ?_ | refine W.skip ?_ | refine W.exit ?_ | refine W.ret ?_ | refine Post.block_exit ?_ | refine Post.block_other rfl ?_ | refine Post.then_exit ?_ | refine Post.then_ret ?_ | refine Post.block_ret ?_ | refine Post.block_normal ?_ | refine WL.lenS (tyS rfl) rfl rfl ?_ | refine WL.lenStr und9 rfl rfl ?_ | refine WL.fieldAddr (tyF rfl) rfl rfl ?_ | refine WL.not rfl rfl ?_ | refine WL.pick_t rfl rfl rfl ?_ | refine WL.pick_f rfl rfl rfl ?_ | refine WL.want rfl rfl ?_ | refine WL.skip rfl rfl rfl rfl ?_ | refine WL.extract rfl rfl rfl ?_ | refine WL.nilCheck rfl rfl ?_)
  refine WL.gtr rfl rfl rfl (fun hgt => ?_) (fun hle => ?_)
  · obtain ⟨i, rfl⟩ : ∃ i', i = i' + 1 := ⟨i - 1, by omega⟩
    rw [putsFrom_succ] at hp
    repeat (first | refine WL.move rfl rfl ?_ | refine WL.assign rfl rfl ?_ | refine W.seq ?_ | refine W.region ?_ | refine WL.nil ?_ | refine Post.next ?_ | refine Post.tail ?_ | refine W.cond_t rfl ?_ | refine W.cond_f rfl ?_ | refine W.block ?_ | refine W.skip ?_ | refine W.exit ?_ | refine W.ret ?_ | refine Post.block_exit ?_ | refine Post.block_other rfl ?_ | refine Post.then_exit ?_ | refine Post.then_ret ?_ | refine Post.block_ret ?_ | refine Post.block_normal ?_ | refine WL.lenS (tyS rfl) rfl rfl ?_ | refine WL.lenStr und9 rfl rfl ?_ | refine WL.fieldAddr (tyF rfl) rfl rfl ?_ | refine WL.not rfl rfl ?_ | refine WL.pick_t rfl rfl rfl ?_ | refine WL.pick_f rfl rfl rfl ?_ | refine WL.want rfl rfl ?_ | refine WL.skip rfl rfl rfl rfl ?_ | refine WL.extract rfl rfl rfl ?_ | refine WL.addI rfl rfl (by omega) rfl ?_ | refine WL.subI rfl rfl (by omega) rfl ?_ | refine WL.indexS (tyS rfl) rfl rfl (by omega) rfl ?_ | refine WL.indexA (tyR rfl) rfl rfl (by omega) rfl ?_)
    have hci : (((i + 1 : Nat) : Int) - 1) = (i : Int) := by omega
    rw [hci]
    refine WL.conv' (kd' := .u64) (tyI rfl) (tyI rfl) rfl (u64w (by omega) (by omega)) rfl ?_
    refine WL.shr rfl rfl (by omega) rfl ?_
    rw [shr_byte x i hx64]
    refine WL.andI rfl rfl rfl ?_
    rw [and1u]
    refine WL.call _ (fnT rfl) (args2 rfl rfl) (put_c wx b B u c (x / 2 ^ i % 2) hpw (by omega) (by omega)) (by rintro e w' ⟨rfl, _⟩; exact ⟨_, rfl⟩) rfl ?_
    rintro _ w1 ⟨hv, v1, hp1, hs1⟩
    cases hv
    refine ⟨trivial, ?_⟩
    have hn7 := hpw.n7
    repeat (first | refine WL.move rfl rfl ?_ | refine WL.assign rfl rfl ?_ | refine W.seq ?_ | refine W.region ?_ | refine WL.nil ?_ | refine Post.next ?_ | refine Post.tail ?_ | refine W.cond_t rfl ?_ | refine W.cond_f rfl ?_ | refine W.block ?_ | refine W.skip ?_ | refine W.exit ?_ | refine W.ret ?_ | refine Post.block_exit ?_ | refine Post.block_other rfl ?_ | refine Post.then_exit ?_ | refine Post.then_ret ?_ | refine Post.block_ret ?_ | refine Post.block_normal ?_ | refine WL.lenS (tyS rfl) rfl rfl ?_ | refine WL.lenStr und9 rfl rfl ?_ | refine WL.fieldAddr (tyF rfl) rfl rfl ?_ | refine WL.not rfl rfl ?_ | refine WL.pick_t rfl rfl rfl ?_ | refine WL.pick_f rfl rfl rfl ?_ | refine WL.want rfl rfl ?_ | refine WL.skip rfl rfl rfl rfl ?_ | refine WL.extract rfl rfl rfl ?_ | refine WL.addI rfl rfl (by omega) rfl ?_ | refine WL.subI rfl rfl (by omega) rfl ?_ | refine WL.indexS (tyS rfl) rfl rfl (by omega) rfl ?_ | refine WL.indexA (tyR rfl) rfl rfl (by omega) rfl ?_)
    refine Post.round3 i (wr c (x / 2 ^ i % 2) 1) v1 ⟨rfl, rfl, (by first | rfl | (simp [look]; done) | (simp [look]; omega)), trivial⟩ ⟨by omega, hp, ?_, hp1, hs.trans hs1⟩ (by omega)
    simp only [wr, List.length_append, emitJ_len]
    omega
  · have hi0 : i = 0 := by omega
    subst hi0
    have hfin : c = wr st x m := by
      have h1 : c = putsFrom x m st := hp
      rw [h1, putsFrom_wr x m st hw.n7 hw.ac hm, Nat.mod_eq_of_lt hx]
    subst hfin
    repeat (first | refine WL.move rfl rfl ?_ | refine WL.assign rfl rfl ?_ | refine W.seq ?_ | refine W.region ?_ | refine WL.nil ?_ | refine Post.next ?_ | refine Post.tail ?_ | refine W.cond_t rfl ?_ | refine W.cond_f rfl ?_ | refine W.block ?_ | refine W.skip ?_ | refine W.exit ?_ | refine W.ret ?_ | refine Post.block_exit ?_ | refine Post.block_other rfl ?_ | refine Post.then_exit ?_ | refine Post.then_ret ?_ | refine Post.block_ret ?_ | refine Post.block_normal ?_ | refine WL.lenS (tyS rfl) rfl rfl ?_ | refine WL.lenStr und9 rfl rfl ?_ | refine WL.fieldAddr (tyF rfl) rfl rfl ?_ | refine WL.not rfl rfl ?_ | refine WL.pick_t rfl rfl rfl ?_ | refine WL.pick_f rfl rfl rfl ?_ | refine WL.want rfl rfl ?_ | refine WL.skip rfl rfl rfl rfl ?_ | refine WL.extract rfl rfl rfl ?_ | refine WL.nilCheck rfl rfl ?_)
    exact Post.end0 rfl ⟨rfl, u, hpw, hs⟩
theorem put_o (w : World) (b B : Nat) (v : Value) (st : BS) (O : List (Nat × Nat)) (x : Nat) (hw : PW B b w v (wrs st O)) (hn : st.n ≤ 7) (hl : st.bs.length ≤ 1048576) (ht : tot O ≤ 67108864) (hx : x < 2) :
    Calls Try.prog 13 #[.pointer (some ⟨b, 0, none⟩), .int .u64 (x : Int)] w fun r w' => r = .returned (.tuple #[]) ∧ ∃ v', PW B b w' v' (wrs st (O ++ [(x, 1)])) ∧ BStep b w v w' v' := by
  have := wrs_len O st
  rw [wrs_snoc]
  exact put_c w b B v (wrs st O) x hw hx (by omega)
theorem putN_o (w : World) (b B : Nat) (v : Value) (st : BS) (O : List (Nat × Nat)) (x m : Nat) (hw : PW B b w v (wrs st O)) (hn : st.n ≤ 7) (hl : st.bs.length ≤ 1048576) (ht : tot O ≤ 67108864) (hx : x < 2 ^ m) (hm : m ≤ 57) :
    Calls Try.prog 12 #[.pointer (some ⟨b, 0, none⟩), .int .u64 (x : Int), .int .i64 (m : Int)] w fun r w' => r = .returned (.tuple #[]) ∧ ∃ v', PW B b w' v' (wrs st (O ++ [(x, m)])) ∧ BStep b w v w' v' := by
  have := wrs_len O st
  rw [wrs_snoc]
  exact putN_c w b B v (wrs st O) x m hw hx hm (by omega)
end Go.Lx
