import Derived.Test.Qxb6603068aT2
namespace Go.Lx
open Go.Proofs Go.RowKit

theorem wr_comp_acc {acc x y a c : Nat} (hx : x < 2 ^ a) (hy : y < 2 ^ c) : wrA (wrA acc x a) y c = wrA acc (x * 2 ^ c + y) (a + c) := by
  have e : ∀ (u v k : Nat), v < 2 ^ k → (u * 2 ^ k ||| v) = u * 2 ^ k + v := fun u v k h => by
    have := Nat.shiftLeft_add_eq_or_of_lt h u
    rw [Nat.shiftLeft_eq] at this
    exact this.symm
  have hxy : x * 2 ^ c + y < 2 ^ (a + c) := by
    rw [Nat.pow_add]
    have h1 : (x + 1) * 2 ^ c ≤ 2 ^ a * 2 ^ c := Nat.mul_le_mul_right _ hx
    rw [Nat.add_mul, Nat.one_mul] at h1
    omega
  unfold wrA
  rw [e _ _ _ hx, e _ _ _ hy, e _ _ _ hxy, Nat.pow_add]
  rw [Nat.add_mod, Nat.mul_mod, Nat.mod_mod, ← Nat.mul_mod, ← Nat.add_mod]
  congr 1
  rw [Nat.add_mul, Nat.mul_assoc, Nat.add_assoc]
theorem div_low {A1 A2 y c E : Nat} (hA : A2 = (A1 * 2 ^ c + y) % 2 ^ 64) (hy : y < 2 ^ c) (h : E + c + 8 ≤ 64) : A2 / 2 ^ (E + c) % 256 = A1 / 2 ^ E % 256 := by
  have h1 : (2 : Nat) ^ 64 = 2 ^ c * 2 ^ (64 - c) := by rw [← Nat.pow_add]; congr 1; omega
  have h2 : A2 / 2 ^ c = A1 % 2 ^ (64 - c) := by
    rw [hA, h1, Nat.mod_mul_right_div_self]
    congr 1
    rw [Nat.mul_comm, Nat.mul_add_div (Nat.pow_pos (by omega)), Nat.div_eq_of_lt hy, Nat.add_zero]
  have h3 : (2 : Nat) ^ (64 - c) = 2 ^ E * 2 ^ (64 - c - E) := by rw [← Nat.pow_add]; congr 1; omega
  rw [Nat.add_comm E c, Nat.pow_add, ← Nat.div_div_eq_div_mul, h2, h3, Nat.mod_mul_right_div_self]
  have h4 : (256 : Nat) ∣ 2 ^ (64 - c - E) := by
    have : (2 : Nat) ^ (64 - c - E) = 2 ^ 8 * 2 ^ (64 - c - E - 8) := by rw [← Nat.pow_add]; congr 1; omega
    rw [this]
    exact Nat.dvd_mul_right _ _
  exact Nat.mod_mod_of_dvd _ h4
/-- One write after the other is one write of both. -/
theorem wr_comp {st : BS} {x y a c : Nat} (hx : x < 2 ^ a) (hy : y < 2 ^ c) (h : st.n + a + c ≤ 64) : wr (wr st x a) y c = wr st (x * 2 ^ c + y) (a + c) := by
  have hacc := wr_comp_acc (acc := st.acc) hx hy
  unfold wr
  simp only
  have hA2 : wrA st.acc (x * 2 ^ c + y) (a + c) = (wrA st.acc x a * 2 ^ c + y) % 2 ^ 64 := by
    rw [← hacc, two64]
    unfold wrA
    have := Nat.shiftLeft_add_eq_or_of_lt hy ((st.acc * 2 ^ a ||| x) % 18446744073709551616)
    rw [Nat.shiftLeft_eq] at this
    rw [this]
  rw [hacc]
  generalize hA1d : wrA st.acc x a = A1 at *
  generalize hA2d : wrA st.acc (x * 2 ^ c + y) (a + c) = A2 at *
  have hn : ((st.n + a) % 8 + c) % 8 = (st.n + (a + c)) % 8 := by omega
  rw [hn]
  congr 1
  rw [List.append_assoc]
  congr 1
  apply List.ext_getElem?
  intro i
  have hl1 : (emitJ A1 (st.n + a) ((st.n + a) / 8)).length = (st.n + a) / 8 := emitJ_len _ _ _
  by_cases h1 : i < (st.n + a) / 8
  · rw [List.getElem?_append_left (by omega)]
    simp only [emitJ, List.getElem?_map]
    rw [List.getElem?_range h1, List.getElem?_range (by omega)]
    simp only [Option.map_some]
    congr 2
    have := div_low (E := st.n + a - 8 * (i + 1)) hA2 hy (by omega)
    rw [← this]
    congr 2
    congr 1
    omega
  · rw [List.getElem?_append_right (by omega), hl1]
    simp only [emitJ, List.getElem?_map]
    by_cases h2 : i < (st.n + (a + c)) / 8
    · rw [List.getElem?_range (by omega), List.getElem?_range h2]
      simp only [Option.map_some]
      have he : (st.n + a) % 8 + c - 8 * (i - (st.n + a) / 8 + 1) = st.n + (a + c) - 8 * (i + 1) := by omega
      rw [he]
    · rw [List.getElem?_eq_none (by simp; omega), List.getElem?_eq_none (by simp; omega)]; rfl
/-- The bits of x, the m lowest, the highest first. -/
def putsFrom (x : Nat) : Nat → BS → BS
  | 0, st => st
  | i + 1, st => putsFrom x i (wr st (x / 2 ^ i % 2) 1)
theorem wr_zero {st : BS} (hn : st.n ≤ 7) (ha : st.acc < 18446744073709551616) : wr st 0 0 = st := by
  cases st with
  | mk bs acc n =>
    simp only at hn ha
    have h1 : wrA acc 0 0 = acc := by
      unfold wrA
      simp
      omega
    unfold wr
    simp only [h1, Nat.add_zero]
    have h2 : n / 8 = 0 := by omega
    have h3 : n % 8 = n := by omega
    rw [h2, h3]
    simp [emitJ]
theorem putsFrom_wr (x : Nat) : ∀ (m : Nat) (st : BS), st.n ≤ 7 → st.acc < 18446744073709551616 → m ≤ 57 → putsFrom x m st = wr st (x % 2 ^ m) m
  | 0, st, hn, ha, _ => by rw [putsFrom, Nat.pow_zero, Nat.mod_one, wr_zero hn ha]
  | m + 1, st, hn, _, hm => by
    rw [putsFrom, putsFrom_wr x m _ (by show (st.n + 1) % 8 ≤ 7; omega) (wrA_lt _ _ _) (by omega)]
    rw [wr_comp (by omega) (Nat.mod_lt _ (Nat.pow_pos (by omega))) (by omega), Nat.add_comm 1 m]
    congr 1
    rw [Nat.pow_succ, Nat.mod_mul, Nat.mul_comm, Nat.add_comm]

/-! ### moveChoice -/
theorem mv_row {M : List Int} {p : Nat} (t : Int) (hp : p < M.length) : spl (spl (bytesC M) 1 ((bytesC M).take p)) 0 [.int .u8 t] = bytesC (t :: (M.take p ++ M.drop (p + 1))) := by
  cases M with
  | nil => simp at hp
  | cons x r =>
    have h1 : ((bytesC (x :: r)).take p).length = p := by simp [bytesC]; simp at hp; omega
    have e : spl (bytesC (x :: r)) 1 ((bytesC (x :: r)).take p) = .int .u8 x :: ((bytesC (x :: r)).take p ++ (bytesC (x :: r)).drop (1 + p)) := by
      unfold spl
      rw [h1]
      simp [bytesC]
    rw [e]
    simp [spl, bytesC, List.map_take, List.map_drop, Nat.add_comm 1 p]
theorem moveChoice_c (w : World) (g : Nat) (M : List Int) (t : Int) (hr : Row w g (bytesC M) 46) (hl : M.length = 6) (ht : t ∈ M) :
    Calls Try.prog 26 #[.pointer (some ⟨g, 0, none⟩), .int .u8 t] w fun r w' => r = .returned (.int .i64 (posL t M : Nat)) ∧ Row w' g (bytesC (t :: outL t M)) 46 ∧ w.grownBy w' (some g) := by
  refine Calls.of_W (args := [.pointer (some ⟨g, 0, none⟩), .int .u8 t]) Try.func26 rfl rfl rfl ?_
  obtain ⟨p0, hp0, hp⟩ := List.getElem_of_mem ht
  repeat (first | refine WL.move rfl rfl ?_ | refine WL.assign rfl rfl ?_ | refine W.seq ?_ | refine W.region ?_ | refine WL.nil ?_ | refine Post.next ?_ | refine Post.tail ?_ | refine W.cond_t rfl ?_ | refine W.cond_f rfl ?_ | refine W.block ?_ | refine W.skip ?_ | refine W.exit ?_ | refine W.ret ?_ | refine Post.block_exit ?_ | refine Post.block_other rfl ?_ | refine Post.then_exit ?_ | refine Post.then_ret ?_ | refine Post.block_ret ?_ | refine Post.block_normal ?_ | refine WL.lenS (tyS rfl) rfl rfl ?_ | refine WL.lenStr und9 rfl rfl ?_ | refine WL.fieldAddr (tyF rfl) rfl rfl ?_ | refine WL.not rfl rfl ?_ | refine WL.pick_t rfl rfl rfl ?_ | refine WL.pick_f rfl rfl rfl ?_ | refine WL.want rfl rfl ?_ | refine WL.skip rfl rfl rfl rfl ?_ | refine WL.extract rfl rfl rfl ?_ | refine WL.nilCheck rfl rfl ?_)
  refine W.loop (fun (i : Nat) => [(0, .pointer (some ⟨g, 0, none⟩)), (1, .int .u8 t), (5, .int .i64 i)])
    (fun i wx => i ≤ p0 ∧ (∀ q, (h : q < M.length) → q < i → M[q] ≠ t) ∧ wx = w) (fun i => p0 - i) 0 ⟨rfl, rfl, rfl, trivial⟩ ⟨by omega, by intro q h hq; omega, rfl⟩ ?_
  rintro i wx ⟨hi, hno, rfl⟩
  have hi6 : i < M.length := by omega
  repeat (first | refine WL.move rfl rfl ?_ | refine WL.assign rfl rfl ?_ | refine W.seq ?_ | refine W.region ?_ | refine WL.nil ?_ | refine Post.next ?_ | refine Post.tail ?_ | refine W.cond_t rfl ?_ | refine W.cond_f rfl ?_ | refine W.block ?_ | refine W.skip ?_ | refine W.exit ?_ | refine W.ret ?_ | refine Post.block_exit ?_ | refine Post.block_other rfl ?_ | refine Post.then_exit ?_ | refine Post.then_ret ?_ | refine Post.block_ret ?_ | refine Post.block_normal ?_ | refine WL.lenS (tyS rfl) rfl rfl ?_ | refine WL.lenStr und9 rfl rfl ?_ | refine WL.fieldAddr (tyF rfl) rfl rfl ?_ | refine WL.not rfl rfl ?_ | refine WL.pick_t rfl rfl rfl ?_ | refine WL.pick_f rfl rfl rfl ?_ | refine WL.want rfl rfl ?_ | refine WL.skip rfl rfl rfl rfl ?_ | refine WL.extract rfl rfl rfl ?_ | refine WL.addI rfl rfl (by omega) rfl ?_ | refine WL.subI rfl rfl (by omega) rfl ?_ | refine WL.indexS (tyS rfl) rfl rfl (by omega) rfl ?_ | refine WL.indexA (tyR rfl) rfl rfl (by omega) rfl ?_ | refine WL.nilCheck rfl rfl ?_)
  refine WL.load (o' := i) (tyP rfl) rfl (fun _ e => e) (hr.cell (bytesC_get hi6)) (by first | omega | (simp; done) | (simp; omega)) rfl ?_
  repeat (first | refine WL.move rfl rfl ?_ | refine WL.assign rfl rfl ?_ | refine W.seq ?_ | refine W.region ?_ | refine WL.nil ?_ | refine Post.next ?_ | refine Post.tail ?_ | refine W.cond_t rfl ?_ | refine W.cond_f rfl ?_ | refine W.block ?_ | refine W.skip ?_ | refine W.exit ?_ | refine W.ret ?_ | refine Post.block_exit ?_ | refine Post.block_other rfl ?_ | refine Post.then_exit ?_ | refine Post.then_ret ?_ | refine Post.block_ret ?_ | refine Post.block_normal ?_ | refine WL.lenS (tyS rfl) rfl rfl ?_ | refine WL.lenStr und9 rfl rfl ?_ | refine WL.fieldAddr (tyF rfl) rfl rfl ?_ | refine WL.not rfl rfl ?_ | refine WL.pick_t rfl rfl rfl ?_ | refine WL.pick_f rfl rfl rfl ?_ | refine WL.want rfl rfl ?_ | refine WL.skip rfl rfl rfl rfl ?_ | refine WL.extract rfl rfl rfl ?_ | refine WL.nilCheck rfl rfl ?_)
  refine WL.neqI rfl rfl rfl (fun hn => ?_) (fun hy => ?_)
  · repeat (first | refine WL.move rfl rfl ?_ | refine WL.assign rfl rfl ?_ | refine W.seq ?_ | refine W.region ?_ | refine WL.nil ?_ | refine Post.next ?_ | refine Post.tail ?_ | refine W.cond_t rfl ?_ | refine W.cond_f rfl ?_ | refine W.block ?_ | refine W.skip ?_ | refine W.exit ?_ | refine W.ret ?_ | refine Post.block_exit ?_ | refine Post.block_other rfl ?_ | refine Post.then_exit ?_ | refine Post.then_ret ?_ | refine Post.block_ret ?_ | refine Post.block_normal ?_ | refine WL.lenS (tyS rfl) rfl rfl ?_ | refine WL.lenStr und9 rfl rfl ?_ | refine WL.fieldAddr (tyF rfl) rfl rfl ?_ | refine WL.not rfl rfl ?_ | refine WL.pick_t rfl rfl rfl ?_ | refine WL.pick_f rfl rfl rfl ?_ | refine WL.want rfl rfl ?_ | refine WL.skip rfl rfl rfl rfl ?_ | refine WL.extract rfl rfl rfl ?_ | refine WL.addI rfl rfl (by omega) rfl ?_ | refine WL.subI rfl rfl (by omega) rfl ?_ | refine WL.indexS (tyS rfl) rfl rfl (by omega) rfl ?_ | refine WL.indexA (tyR rfl) rfl rfl (by omega) rfl ?_ | refine WL.nilCheck rfl rfl ?_)
    have hip : i + 1 ≤ p0 := by
      rcases Nat.lt_or_ge i p0 with h | h
      · exact h
      · have : i = p0 := by omega
        subst this; exact absurd hp hn
    refine Post.round (i + 1) ⟨rfl, rfl, (by first | rfl | (simp [look]; done) | (simp [look]; omega)), trivial⟩ ⟨hip, ?_, rfl⟩ (by omega)
    intro q h hq
    by_cases e : q = i
    · subst e; exact hn
    · exact hno q h (by omega)
  · obtain ⟨hpo, hout⟩ := pos_out M t i hi6 hy hno
    have hrd := hr.up (Up.drew wx)
    repeat (first | refine WL.move rfl rfl ?_ | refine WL.assign rfl rfl ?_ | refine W.seq ?_ | refine W.region ?_ | refine WL.nil ?_ | refine Post.next ?_ | refine Post.tail ?_ | refine W.cond_t rfl ?_ | refine W.cond_f rfl ?_ | refine W.block ?_ | refine W.skip ?_ | refine W.exit ?_ | refine W.ret ?_ | refine Post.block_exit ?_ | refine Post.block_other rfl ?_ | refine Post.then_exit ?_ | refine Post.then_ret ?_ | refine Post.block_ret ?_ | refine Post.block_normal ?_ | refine WL.lenS (tyS rfl) rfl rfl ?_ | refine WL.lenStr und9 rfl rfl ?_ | refine WL.fieldAddr (tyF rfl) rfl rfl ?_ | refine WL.not rfl rfl ?_ | refine WL.pick_t rfl rfl rfl ?_ | refine WL.pick_f rfl rfl rfl ?_ | refine WL.want rfl rfl ?_ | refine WL.skip rfl rfl rfl rfl ?_ | refine WL.extract rfl rfl rfl ?_ | refine WL.nilCheck rfl rfl ?_)
    refine W.region_p [(0, true), (1, true), (2, true), (3, true), (4, true), (5, true), (6, true), (7, true), (8, true), (9, false)] (fun _ => True) mixed (by kernel_rfl) trivial ?_
    repeat (first | refine WL.move rfl rfl ?_ | refine WL.assign rfl rfl ?_ | refine W.seq ?_ | refine W.region ?_ | refine WL.nil ?_ | refine Post.next ?_ | refine Post.tail ?_ | refine W.cond_t rfl ?_ | refine W.cond_f rfl ?_ | refine W.block ?_ | refine W.skip ?_ | refine W.exit ?_ | refine W.ret ?_ | refine Post.block_exit ?_ | refine Post.block_other rfl ?_ | refine Post.then_exit ?_ | refine Post.then_ret ?_ | refine Post.block_ret ?_ | refine Post.block_normal ?_ | refine WL.lenS (tyS rfl) rfl rfl ?_ | refine WL.lenStr und9 rfl rfl ?_ | refine WL.fieldAddr (tyF rfl) rfl rfl ?_ | refine WL.not rfl rfl ?_ | refine WL.pick_t rfl rfl rfl ?_ | refine WL.pick_f rfl rfl rfl ?_ | refine WL.want rfl rfl ?_ | refine WL.skip rfl rfl rfl rfl ?_ | refine WL.extract rfl rfl rfl ?_ | refine WL.addI rfl rfl (by omega) rfl ?_ | refine WL.subI rfl rfl (by omega) rfl ?_ | refine WL.indexS (tyS rfl) rfl rfl (by omega) rfl ?_ | refine WL.indexA (tyR rfl) rfl rfl (by omega) rfl ?_ | refine WL.nilCheck rfl rfl ?_)
    refine WL.sliceALH (tyR rfl) rfl rfl rfl (by omega) rfl ?_
    repeat (first | refine WL.move rfl rfl ?_ | refine WL.assign rfl rfl ?_ | refine W.seq ?_ | refine W.region ?_ | refine WL.nil ?_ | refine Post.next ?_ | refine Post.tail ?_ | refine W.cond_t rfl ?_ | refine W.cond_f rfl ?_ | refine W.block ?_ | refine W.skip ?_ | refine W.exit ?_ | refine W.ret ?_ | refine Post.block_exit ?_ | refine Post.block_other rfl ?_ | refine Post.then_exit ?_ | refine Post.then_ret ?_ | refine Post.block_ret ?_ | refine Post.block_normal ?_ | refine WL.lenS (tyS rfl) rfl rfl ?_ | refine WL.lenStr und9 rfl rfl ?_ | refine WL.fieldAddr (tyF rfl) rfl rfl ?_ | refine WL.not rfl rfl ?_ | refine WL.pick_t rfl rfl rfl ?_ | refine WL.pick_f rfl rfl rfl ?_ | refine WL.want rfl rfl ?_ | refine WL.skip rfl rfl rfl rfl ?_ | refine WL.extract rfl rfl rfl ?_ | refine WL.addI rfl rfl (by omega) rfl ?_ | refine WL.subI rfl rfl (by omega) rfl ?_ | refine WL.indexS (tyS rfl) rfl rfl (by omega) rfl ?_ | refine WL.indexA (tyR rfl) rfl rfl (by omega) rfl ?_ | refine WL.nilCheck rfl rfl ?_)
    refine WL.sliceAH (tyR rfl) rfl rfl (by omega) rfl ?_
    have e1 : (((i : Int) + 1).toNat - (1 : Int).toNat) = i := by omega
    have e2 : ((i : Int)).toNat = i := by omega
    rw [e1, e2]
    refine WL.copy (o1 := 1) (vs := (bytesC M).take i) (tyS rfl) rfl rfl (by simp [bytesC]; omega) (fun u hu => bytesC_one M u (List.mem_of_mem_take hu)) (fun q u hq => ?_) hrd (by simp) (by simp only [bytesC, List.length_map]; omega) rfl ?_
    · have hqi : q < i := by
        have := (List.getElem?_eq_some_iff.1 hq).1
        simp [bytesC] at this; omega
      rw [List.getElem?_take_of_lt hqi] at hq
      rw [Nat.zero_add]
      exact hrd.cell hq
    intro w1 hg1 hz1 hr1
    refine ⟨trivial, ?_⟩
    have hl1 : 0 < (spl (bytesC M) 1 ((bytesC M).take i)).length := by
      rw [spl_length _ _ _ (by simp [bytesC]; omega)]
      simp [bytesC]; omega
    repeat (first | refine WL.move rfl rfl ?_ | refine WL.assign rfl rfl ?_ | refine W.seq ?_ | refine W.region ?_ | refine WL.nil ?_ | refine Post.next ?_ | refine Post.tail ?_ | refine W.cond_t rfl ?_ | refine W.cond_f rfl ?_ | refine W.block ?_ | refine W.skip ?_ | refine W.exit ?_ | refine W.ret ?_ | refine Post.block_exit ?_ | refine Post.block_other rfl ?_ | refine Post.then_exit ?_ | refine Post.then_ret ?_ | refine Post.block_ret ?_ | refine Post.block_normal ?_ | refine WL.lenS (tyS rfl) rfl rfl ?_ | refine WL.lenStr und9 rfl rfl ?_ | refine WL.fieldAddr (tyF rfl) rfl rfl ?_ | refine WL.not rfl rfl ?_ | refine WL.pick_t rfl rfl rfl ?_ | refine WL.pick_f rfl rfl rfl ?_ | refine WL.want rfl rfl ?_ | refine WL.skip rfl rfl rfl rfl ?_ | refine WL.extract rfl rfl rfl ?_ | refine WL.addI rfl rfl (by omega) rfl ?_ | refine WL.subI rfl rfl (by omega) rfl ?_ | refine WL.indexS (tyS rfl) rfl rfl (by omega) rfl ?_ | refine WL.indexA (tyR rfl) rfl rfl (by omega) rfl ?_ | refine WL.nilCheck rfl rfl ?_)
    refine WL.store (o' := 0) (tyP rfl) rfl rfl rfl hr1 (by first | omega | (simp; done) | (simp; omega)) hl1 ?_
    intro w2 hg2 hz2 hr2
    refine ⟨trivial, ?_⟩
    rw [mv_row t hi6, ← hout] at hr2
    repeat (first | refine WL.move rfl rfl ?_ | refine WL.assign rfl rfl ?_ | refine W.seq ?_ | refine W.region ?_ | refine WL.nil ?_ | refine Post.next ?_ | refine Post.tail ?_ | refine W.cond_t rfl ?_ | refine W.cond_f rfl ?_ | refine W.block ?_ | refine W.skip ?_ | refine W.exit ?_ | refine W.ret ?_ | refine Post.block_exit ?_ | refine Post.block_other rfl ?_ | refine Post.then_exit ?_ | refine Post.then_ret ?_ | refine Post.block_ret ?_ | refine Post.block_normal ?_ | refine WL.lenS (tyS rfl) rfl rfl ?_ | refine WL.lenStr und9 rfl rfl ?_ | refine WL.fieldAddr (tyF rfl) rfl rfl ?_ | refine WL.not rfl rfl ?_ | refine WL.pick_t rfl rfl rfl ?_ | refine WL.pick_f rfl rfl rfl ?_ | refine WL.want rfl rfl ?_ | refine WL.skip rfl rfl rfl rfl ?_ | refine WL.extract rfl rfl rfl ?_ | refine WL.nilCheck rfl rfl ?_)
    refine Post.ret1 rfl rfl ⟨by rw [hpo], hr2, ?_⟩
    exact ⟨hg2.os.trans hg1.os, hg2.tape.trans hg1.tape, hg2.output.trans hg1.output, Nat.le_trans hg1.size hg2.size, fun k hk hne => by rw [hg2.block k (Nat.lt_of_lt_of_le hk hg1.size) hne, hg1.block k hk hne]; rfl⟩
end Go.Lx
