import Derived.Test.Qxb6603068aT1
namespace Go.Lx
open Go.Proofs Go.RowKit

/-! ### Plain: a bit writer -/
structure BS where
  bs : List Int
  acc : Nat
  n : Nat
/-- j bytes of the t lowest bits of A, the highest first. -/
def emitJ (A t j : Nat) : List Int := (List.range j).map fun i => ((A / 2 ^ (t - 8 * (i + 1)) % 256 : Nat) : Int)
def wrA (acc x m : Nat) : Nat := ((acc * 2 ^ m) ||| x) % 18446744073709551616
def wr (st : BS) (x m : Nat) : BS := ⟨st.bs ++ emitJ (wrA st.acc x m) (st.n + m) ((st.n + m) / 8), wrA st.acc x m, (st.n + m) % 8⟩
theorem emitJ_len (A t j : Nat) : (emitJ A t j).length = j := by simp [emitJ]
theorem emitJ_succ (A t j : Nat) : emitJ A t (j + 1) = emitJ A t j ++ [((A / 2 ^ (t - 8 * (j + 1)) % 256 : Nat) : Int)] := by simp [emitJ, List.range_succ]
theorem two64 : (2 : Nat) ^ 64 = 18446744073709551616 := by decide
theorem wrap_nat (y : Nat) : IntKind.u64.wrap (y : Int) = ((y % 18446744073709551616 : Nat) : Int) := by
  simp [IntKind.wrap, IntKind.bits, IntKind.signed]
theorem or_wrap (y x : Nat) : IntKind.u64.wrap ((BitVec.ofInt 64 (y : Int) ||| BitVec.ofInt 64 (x : Int)).toNat : Int) = (((y ||| x) % 18446744073709551616 : Nat) : Int) := by
  have h1 : (BitVec.ofInt 64 (y : Int) ||| BitVec.ofInt 64 (x : Int)).toNat = (y ||| x) % 18446744073709551616 := by
    rw [BitVec.toNat_or, BitVec.ofInt_natCast, BitVec.ofInt_natCast, BitVec.toNat_ofNat, BitVec.toNat_ofNat, ← Nat.or_mod_two_pow, two64]
  rw [h1, wrap_nat, Nat.mod_mod]
theorem shl_min (acc m : Nat) : acc * 2 ^ (min m 64) % 18446744073709551616 = acc * 2 ^ m % 18446744073709551616 := by
  rcases Nat.le_total m 64 with h | h
  · rw [Nat.min_eq_left h]
  · rw [Nat.min_eq_right h, ← two64, Nat.mul_mod_left]
    have e : 2 ^ m = 2 ^ (m - 64) * 2 ^ 64 := by rw [← Nat.pow_add]; congr 1; omega
    rw [e, ← Nat.mul_assoc, Nat.mul_mod_left]
theorem shl_or (acc x m : Nat) : IntKind.u64.wrap ((BitVec.ofInt IntKind.u64.bits (IntKind.u64.wrap ((acc : Int) * 2 ^ (min ((m : Int)).toNat IntKind.u64.bits))) ||| BitVec.ofInt IntKind.u64.bits (x : Int)).toNat : Int) = ((wrA acc x m : Nat) : Int) := by
  have h1 : ((acc : Int) * 2 ^ (min ((m : Int)).toNat IntKind.u64.bits)) = ((acc * 2 ^ (min m 64) : Nat) : Int) := by
    rw [Int.toNat_natCast, Int.natCast_mul, Int.natCast_pow]; rfl
  rw [h1, show IntKind.u64.wrap ((acc * 2 ^ (min m 64) : Nat) : Int) = _ from wrap_nat _, shl_min]
  have h2 := or_wrap (acc * 2 ^ m % 18446744073709551616) x
  refine h2.trans ?_
  congr 1
  unfold wrA
  rw [← two64, Nat.or_mod_two_pow, Nat.mod_mod, ← Nat.or_mod_two_pow]
theorem shr_byte (A t : Nat) (hA : A < 18446744073709551616) : ((A : Int)).fdiv (2 ^ (min ((t : Int)).toNat IntKind.u64.bits)) = ((A / 2 ^ t : Nat) : Int) := by
  have h1 : (2 : Int) ^ (min ((t : Int)).toNat IntKind.u64.bits) = ((2 ^ (min t 64) : Nat) : Int) := by
    rw [Int.toNat_natCast, Int.natCast_pow]; rfl
  rw [h1, Int.fdiv_eq_ediv_of_nonneg _ (Int.natCast_nonneg _), ← Int.natCast_ediv]
  congr 1
  rcases Nat.le_total t 64 with h | h
  · rw [Nat.min_eq_left h]
  · rw [Nat.min_eq_right h, Nat.div_eq_of_lt (by rw [two64]; exact hA), Nat.div_eq_of_lt]
    exact Nat.lt_of_lt_of_le hA (by rw [← two64]; exact Nat.pow_le_pow_right (by omega) h)
theorem u8_nat (y : Nat) : IntKind.u8.wrap (y : Int) = ((y % 256 : Nat) : Int) := by
  simp [IntKind.wrap, IntKind.bits, IntKind.signed]
theorem wrA_lt (acc x m : Nat) : wrA acc x m < 18446744073709551616 := Nat.mod_lt _ (by omega)

/-- The writer's block b, its bytes an own row. -/
structure BW (B b : Nat) (w : World) (v : Value) (st : BS) : Prop where
  row : Row w b [v, .int .u64 (st.acc : Int), .int .u64 (st.n : Int)] 63
  own : w.ownsRow B 5 1 v st.bs.length (st.bs.map (Value.int .u8))
  le : B ≤ w.heap.size
  n7 : st.n ≤ 7
  ac : st.acc < 18446744073709551616
theorem BW.kept {B b : Nat} {w w' : World} {v : Value} {st : BS} {row : Option Nat} (h : BW B b w v st) (hg : w.grownBy w' row) (hb : row ≠ some b) (hv : v.ownBlock = none ∨ v.ownBlock ≠ row) : BW B b w' v st :=
  ⟨h.row.kept hg hb, h.own.kept hg hv, Nat.le_trans h.le hg.size, h.n7, h.ac⟩
theorem BW.up {B b : Nat} {w w' : World} {v : Value} {st : BS} (h : BW B b w v st) (hg : w.grownBy w' none) : BW B b w' v st := h.kept hg (by simp) (by cases v.ownBlock <;> simp)
theorem BW.new {B b g t : Nat} {w w' : World} {v : Value} {st : BS} {cs : List Value} (h : BW B b w v st) (hg : w.grownBy w' (some g)) (hb : g ≠ b) (hr : Row w g cs t) (ht : t ≠ 5) : BW B b w' v st :=
  h.kept hg (fun e => hb (Option.some.inj e)) (.inr (own_ne_row h.own hr ht))
theorem spl0 (a b c x : Value) : spl [a, b, c] 0 [x] = [x, b, c] := rfl
theorem spl1 (a b c x : Value) : spl [a, b, c] 1 [x] = [a, x, c] := rfl
theorem spl2 (a b c x : Value) : spl [a, b, c] 2 [x] = [a, b, x] := rfl
theorem ownOne {w : World} {B e k n : Nat} {v : Value} {xs : List Value} (h : w.ownsRow B e k v n xs) : v.oneCell' = true := by
  rcases h.2 with ⟨rfl, _⟩ | ⟨g, cap, cur, rfl, _⟩ <;> rfl

set_option maxHeartbeats 1000000 in
theorem bw_c (w : World) (b B : Nat) (v : Value) (st : BS) (x m : Nat) (hw : BW B b w v st) (hm : m ≤ 255) (hl : st.bs.length ≤ 1099511627776) :
    Calls Try.prog 29 #[.pointer (some ⟨b, 0, none⟩), .int .u64 (x : Int), .int .u64 (m : Int)] w fun r w' => r = .returned (.tuple #[]) ∧ ∃ v', BW B b w' v' (wr st x m) ∧ BStep b w v w' v' := by
  refine Calls.of_W (args := [.pointer (some ⟨b, 0, none⟩), .int .u64 (x : Int), .int .u64 (m : Int)]) Try.func29 rfl rfl rfl ?_
  have hn7 := hw.n7
  repeat (first | refine WL.move rfl rfl ?_ | refine WL.assign rfl rfl ?_ | refine W.seq ?_ | refine W.region ?_ | refine WL.nil ?_ | refine Post.next ?_ | refine Post.tail ?_ | refine W.cond_t rfl ?_ | refine W.cond_f rfl ?_ | refine W.block ?_ | refine W.skip ?_ | refine W.exit ?_ | refine W.ret ?_ | refine Post.block_exit ?_ | refine Post.block_other rfl ?_ | refine Post.then_exit ?_ | refine Post.then_ret ?_ | refine Post.block_ret ?_ | refine Post.block_normal ?_ | refine WL.lenS (tyS rfl) rfl rfl ?_ | refine WL.lenStr und9 rfl rfl ?_ | refine WL.fieldAddr (tyF rfl) rfl rfl ?_ | refine WL.not rfl rfl ?_ | refine WL.pick_t rfl rfl rfl ?_ | refine WL.pick_f rfl rfl rfl ?_ | refine WL.want rfl rfl ?_ | refine WL.skip rfl rfl rfl rfl ?_ | refine WL.extract rfl rfl rfl ?_ | refine WL.nilCheck rfl rfl ?_)
  refine WL.load (o' := 1) (tyP rfl) rfl (fun _ e => e) (hw.row.cell rfl) (by first | omega | (simp; done) | (simp; omega)) rfl ?_
  repeat (first | refine WL.move rfl rfl ?_ | refine WL.assign rfl rfl ?_ | refine W.seq ?_ | refine W.region ?_ | refine WL.nil ?_ | refine Post.next ?_ | refine Post.tail ?_ | refine W.cond_t rfl ?_ | refine W.cond_f rfl ?_ | refine W.block ?_ | refine W.skip ?_ | refine W.exit ?_ | refine W.ret ?_ | refine Post.block_exit ?_ | refine Post.block_other rfl ?_ | refine Post.then_exit ?_ | refine Post.then_ret ?_ | refine Post.block_ret ?_ | refine Post.block_normal ?_ | refine WL.lenS (tyS rfl) rfl rfl ?_ | refine WL.lenStr und9 rfl rfl ?_ | refine WL.fieldAddr (tyF rfl) rfl rfl ?_ | refine WL.not rfl rfl ?_ | refine WL.pick_t rfl rfl rfl ?_ | refine WL.pick_f rfl rfl rfl ?_ | refine WL.want rfl rfl ?_ | refine WL.skip rfl rfl rfl rfl ?_ | refine WL.extract rfl rfl rfl ?_ | refine WL.nilCheck rfl rfl ?_)
  refine WL.shl rfl rfl (by omega) rfl ?_
  repeat (first | refine WL.move rfl rfl ?_ | refine WL.assign rfl rfl ?_ | refine W.seq ?_ | refine W.region ?_ | refine WL.nil ?_ | refine Post.next ?_ | refine Post.tail ?_ | refine W.cond_t rfl ?_ | refine W.cond_f rfl ?_ | refine W.block ?_ | refine W.skip ?_ | refine W.exit ?_ | refine W.ret ?_ | refine Post.block_exit ?_ | refine Post.block_other rfl ?_ | refine Post.then_exit ?_ | refine Post.then_ret ?_ | refine Post.block_ret ?_ | refine Post.block_normal ?_ | refine WL.lenS (tyS rfl) rfl rfl ?_ | refine WL.lenStr und9 rfl rfl ?_ | refine WL.fieldAddr (tyF rfl) rfl rfl ?_ | refine WL.not rfl rfl ?_ | refine WL.pick_t rfl rfl rfl ?_ | refine WL.pick_f rfl rfl rfl ?_ | refine WL.want rfl rfl ?_ | refine WL.skip rfl rfl rfl rfl ?_ | refine WL.extract rfl rfl rfl ?_ | refine WL.nilCheck rfl rfl ?_)
  refine WL.orI rfl rfl rfl ?_
  rw [shl_or]
  repeat (first | refine WL.move rfl rfl ?_ | refine WL.assign rfl rfl ?_ | refine W.seq ?_ | refine W.region ?_ | refine WL.nil ?_ | refine Post.next ?_ | refine Post.tail ?_ | refine W.cond_t rfl ?_ | refine W.cond_f rfl ?_ | refine W.block ?_ | refine W.skip ?_ | refine W.exit ?_ | refine W.ret ?_ | refine Post.block_exit ?_ | refine Post.block_other rfl ?_ | refine Post.then_exit ?_ | refine Post.then_ret ?_ | refine Post.block_ret ?_ | refine Post.block_normal ?_ | refine WL.lenS (tyS rfl) rfl rfl ?_ | refine WL.lenStr und9 rfl rfl ?_ | refine WL.fieldAddr (tyF rfl) rfl rfl ?_ | refine WL.not rfl rfl ?_ | refine WL.pick_t rfl rfl rfl ?_ | refine WL.pick_f rfl rfl rfl ?_ | refine WL.want rfl rfl ?_ | refine WL.skip rfl rfl rfl rfl ?_ | refine WL.extract rfl rfl rfl ?_ | refine WL.nilCheck rfl rfl ?_)
  refine WL.store (o' := 1) (tyP rfl) rfl rfl rfl hw.row (by first | omega | (simp; done) | (simp; omega)) (by simp) ?_
  intro w1 hg1 hz1 hr1
  refine ⟨trivial, ?_⟩
  rw [spl1] at hr1
  have hA := wrA_lt st.acc x m
  generalize hAd : wrA st.acc x m = A at *
  repeat (first | refine WL.move rfl rfl ?_ | refine WL.assign rfl rfl ?_ | refine W.seq ?_ | refine W.region ?_ | refine WL.nil ?_ | refine Post.next ?_ | refine Post.tail ?_ | refine W.cond_t rfl ?_ | refine W.cond_f rfl ?_ | refine W.block ?_ | refine W.skip ?_ | refine W.exit ?_ | refine W.ret ?_ | refine Post.block_exit ?_ | refine Post.block_other rfl ?_ | refine Post.then_exit ?_ | refine Post.then_ret ?_ | refine Post.block_ret ?_ | refine Post.block_normal ?_ | refine WL.lenS (tyS rfl) rfl rfl ?_ | refine WL.lenStr und9 rfl rfl ?_ | refine WL.fieldAddr (tyF rfl) rfl rfl ?_ | refine WL.not rfl rfl ?_ | refine WL.pick_t rfl rfl rfl ?_ | refine WL.pick_f rfl rfl rfl ?_ | refine WL.want rfl rfl ?_ | refine WL.skip rfl rfl rfl rfl ?_ | refine WL.extract rfl rfl rfl ?_ | refine WL.nilCheck rfl rfl ?_)
  refine WL.load (o' := 2) (tyP rfl) rfl (fun _ e => e) (hr1.cell rfl) (by first | omega | (simp; done) | (simp; omega)) rfl ?_
  repeat (first | refine WL.move rfl rfl ?_ | refine WL.assign rfl rfl ?_ | refine W.seq ?_ | refine W.region ?_ | refine WL.nil ?_ | refine Post.next ?_ | refine Post.tail ?_ | refine W.cond_t rfl ?_ | refine W.cond_f rfl ?_ | refine W.block ?_ | refine W.skip ?_ | refine W.exit ?_ | refine W.ret ?_ | refine Post.block_exit ?_ | refine Post.block_other rfl ?_ | refine Post.then_exit ?_ | refine Post.then_ret ?_ | refine Post.block_ret ?_ | refine Post.block_normal ?_ | refine WL.lenS (tyS rfl) rfl rfl ?_ | refine WL.lenStr und9 rfl rfl ?_ | refine WL.fieldAddr (tyF rfl) rfl rfl ?_ | refine WL.not rfl rfl ?_ | refine WL.pick_t rfl rfl rfl ?_ | refine WL.pick_f rfl rfl rfl ?_ | refine WL.want rfl rfl ?_ | refine WL.skip rfl rfl rfl rfl ?_ | refine WL.extract rfl rfl rfl ?_ | refine WL.nilCheck rfl rfl ?_)
  refine WL.add rfl rfl rfl ?_
  rw [u64w (by omega) (by omega)]
  repeat (first | refine WL.move rfl rfl ?_ | refine WL.assign rfl rfl ?_ | refine W.seq ?_ | refine W.region ?_ | refine WL.nil ?_ | refine Post.next ?_ | refine Post.tail ?_ | refine W.cond_t rfl ?_ | refine W.cond_f rfl ?_ | refine W.block ?_ | refine W.skip ?_ | refine W.exit ?_ | refine W.ret ?_ | refine Post.block_exit ?_ | refine Post.block_other rfl ?_ | refine Post.then_exit ?_ | refine Post.then_ret ?_ | refine Post.block_ret ?_ | refine Post.block_normal ?_ | refine WL.lenS (tyS rfl) rfl rfl ?_ | refine WL.lenStr und9 rfl rfl ?_ | refine WL.fieldAddr (tyF rfl) rfl rfl ?_ | refine WL.not rfl rfl ?_ | refine WL.pick_t rfl rfl rfl ?_ | refine WL.pick_f rfl rfl rfl ?_ | refine WL.want rfl rfl ?_ | refine WL.skip rfl rfl rfl rfl ?_ | refine WL.extract rfl rfl rfl ?_ | refine WL.nilCheck rfl rfl ?_)
  refine WL.store (o' := 2) (tyP rfl) rfl rfl rfl hr1 (by first | omega | (simp; done) | (simp; omega)) (by simp) ?_
  intro w2 hg2 hz2 hr2
  refine ⟨trivial, ?_⟩
  rw [spl2] at hr2
  have ho1 := hw.own.kept hg1 (.inr (own_ne_row hw.own hw.row (by decide)))
  have ho2 := ho1.kept hg2 (.inr (own_ne_row ho1 hr1 (by decide)))
  have hs2 : BStep b w v w2 v := ((BStep.refl b w v).own hg1).own hg2
  have hB2 : B ≤ w2.heap.size := Nat.le_trans hw.le hs2.size
  have hci : ((st.n : Int) + (m : Int)) = ((st.n + m : Nat) : Int) := by omega
  rw [hci] at hr2
  repeat (first | refine WL.move rfl rfl ?_ | refine WL.assign rfl rfl ?_ | refine W.seq ?_ | refine W.region ?_ | refine WL.nil ?_ | refine Post.next ?_ | refine Post.tail ?_ | refine W.cond_t rfl ?_ | refine W.cond_f rfl ?_ | refine W.block ?_ | refine W.skip ?_ | refine W.exit ?_ | refine W.ret ?_ | refine Post.block_exit ?_ | refine Post.block_other rfl ?_ | refine Post.then_exit ?_ | refine Post.then_ret ?_ | refine Post.block_ret ?_ | refine Post.block_normal ?_ | refine WL.lenS (tyS rfl) rfl rfl ?_ | refine WL.lenStr und9 rfl rfl ?_ | refine WL.fieldAddr (tyF rfl) rfl rfl ?_ | refine WL.not rfl rfl ?_ | refine WL.pick_t rfl rfl rfl ?_ | refine WL.pick_f rfl rfl rfl ?_ | refine WL.want rfl rfl ?_ | refine WL.skip rfl rfl rfl rfl ?_ | refine WL.extract rfl rfl rfl ?_ | refine WL.nilCheck rfl rfl ?_)
  refine W.loop2 (fun (_ : Nat) (_ : Value) => [(0, .pointer (some ⟨b, 0, none⟩))])
    (fun j u wx => 8 * j ≤ st.n + m ∧ Row wx b [u, .int .u64 (A : Int), .int .u64 ((st.n + m - 8 * j : Nat) : Int)] 63 ∧ wx.ownsRow B 5 1 u (st.bs ++ emitJ A (st.n + m) j).length ((st.bs ++ emitJ A (st.n + m) j).map (Value.int .u8)) ∧ BStep b w v wx u) (fun j _ => st.n + m - 8 * j) 0 v ⟨rfl, trivial⟩
    ⟨by omega, hr2, by rw [show emitJ A (st.n + m) 0 = [] from rfl, List.append_nil]; exact ho2, hs2⟩ ?_
  rintro j u wx ⟨hj, hrx, hox, hsx⟩
  have hlx : (st.bs ++ emitJ A (st.n + m) j).length = st.bs.length + j := by rw [List.length_append, emitJ_len]
  repeat (first | refine WL.move rfl rfl ?_ | refine WL.assign rfl rfl ?_ | refine W.seq ?_ | refine W.region ?_ | refine WL.nil ?_ | refine Post.next ?_ | refine Post.tail ?_ | refine W.cond_t rfl ?_ | refine W.cond_f rfl ?_ | refine W.block ?_ | refine W.skip ?_ | refine W.exit ?_ | refine W.ret ?_ | refine Post.block_exit ?_ | refine Post.block_other rfl ?_ | refine Post.then_exit ?_ | refine Post.then_ret ?_ | refine Post.block_ret ?_ | refine Post.block_normal ?_ | refine WL.lenS (tyS rfl) rfl rfl ?_ | refine WL.lenStr und9 rfl rfl ?_ | refine WL.fieldAddr (tyF rfl) rfl rfl ?_ | refine WL.not rfl rfl ?_ | refine WL.pick_t rfl rfl rfl ?_ | refine WL.pick_f rfl rfl rfl ?_ | refine WL.want rfl rfl ?_ | refine WL.skip rfl rfl rfl rfl ?_ | refine WL.extract rfl rfl rfl ?_ | refine WL.nilCheck rfl rfl ?_)
  refine WL.load (o' := 2) (tyP rfl) rfl (fun _ e => e) (hrx.cell rfl) (by first | omega | (simp; done) | (simp; omega)) rfl ?_
  repeat (first | refine WL.move rfl rfl ?_ | refine WL.assign rfl rfl ?_ | refine W.seq ?_ | refine W.region ?_ | refine WL.nil ?_ | refine Post.next ?_ | refine Post.tail ?_ | refine W.cond_t rfl ?_ | refine W.cond_f rfl ?_ | refine W.block ?_ | refine W.skip ?_ | refine W.exit ?_ | refine W.ret ?_ | refine Post.block_exit ?_ | refine Post.block_other rfl ?_ | refine Post.then_exit ?_ | refine Post.then_ret ?_ | refine Post.block_ret ?_ | refine Post.block_normal ?_ | refine WL.lenS (tyS rfl) rfl rfl ?_ | refine WL.lenStr und9 rfl rfl ?_ | refine WL.fieldAddr (tyF rfl) rfl rfl ?_ | refine WL.not rfl rfl ?_ | refine WL.pick_t rfl rfl rfl ?_ | refine WL.pick_f rfl rfl rfl ?_ | refine WL.want rfl rfl ?_ | refine WL.skip rfl rfl rfl rfl ?_ | refine WL.extract rfl rfl rfl ?_ | refine WL.nilCheck rfl rfl ?_)
  refine WL.geq rfl rfl rfl (fun hge => ?_) (fun hlt => ?_)
  · repeat (first | refine WL.move rfl rfl ?_ | refine WL.assign rfl rfl ?_ | refine W.seq ?_ | refine W.region ?_ | refine WL.nil ?_ | refine Post.next ?_ | refine Post.tail ?_ | refine W.cond_t rfl ?_ | refine W.cond_f rfl ?_ | refine W.block ?_ | refine W.skip ?_ | refine W.exit ?_ | refine W.ret ?_ | refine Post.block_exit ?_ | refine Post.block_other rfl ?_ | refine Post.then_exit ?_ | refine Post.then_ret ?_ | refine Post.block_ret ?_ | refine Post.block_normal ?_ | refine WL.lenS (tyS rfl) rfl rfl ?_ | refine WL.lenStr und9 rfl rfl ?_ | refine WL.fieldAddr (tyF rfl) rfl rfl ?_ | refine WL.not rfl rfl ?_ | refine WL.pick_t rfl rfl rfl ?_ | refine WL.pick_f rfl rfl rfl ?_ | refine WL.want rfl rfl ?_ | refine WL.skip rfl rfl rfl rfl ?_ | refine WL.extract rfl rfl rfl ?_ | refine WL.nilCheck rfl rfl ?_)
    refine WL.load (o' := 2) (tyP rfl) rfl (fun _ e => e) (hrx.cell rfl) (by first | omega | (simp; done) | (simp; omega)) rfl ?_
    repeat (first | refine WL.move rfl rfl ?_ | refine WL.assign rfl rfl ?_ | refine W.seq ?_ | refine W.region ?_ | refine WL.nil ?_ | refine Post.next ?_ | refine Post.tail ?_ | refine W.cond_t rfl ?_ | refine W.cond_f rfl ?_ | refine W.block ?_ | refine W.skip ?_ | refine W.exit ?_ | refine W.ret ?_ | refine Post.block_exit ?_ | refine Post.block_other rfl ?_ | refine Post.then_exit ?_ | refine Post.then_ret ?_ | refine Post.block_ret ?_ | refine Post.block_normal ?_ | refine WL.lenS (tyS rfl) rfl rfl ?_ | refine WL.lenStr und9 rfl rfl ?_ | refine WL.fieldAddr (tyF rfl) rfl rfl ?_ | refine WL.not rfl rfl ?_ | refine WL.pick_t rfl rfl rfl ?_ | refine WL.pick_f rfl rfl rfl ?_ | refine WL.want rfl rfl ?_ | refine WL.skip rfl rfl rfl rfl ?_ | refine WL.extract rfl rfl rfl ?_ | refine WL.nilCheck rfl rfl ?_)
    refine WL.sub' rfl rfl rfl ?_
    rw [u64w (by omega) (by omega)]
    repeat (first | refine WL.move rfl rfl ?_ | refine WL.assign rfl rfl ?_ | refine W.seq ?_ | refine W.region ?_ | refine WL.nil ?_ | refine Post.next ?_ | refine Post.tail ?_ | refine W.cond_t rfl ?_ | refine W.cond_f rfl ?_ | refine W.block ?_ | refine W.skip ?_ | refine W.exit ?_ | refine W.ret ?_ | refine Post.block_exit ?_ | refine Post.block_other rfl ?_ | refine Post.then_exit ?_ | refine Post.then_ret ?_ | refine Post.block_ret ?_ | refine Post.block_normal ?_ | refine WL.lenS (tyS rfl) rfl rfl ?_ | refine WL.lenStr und9 rfl rfl ?_ | refine WL.fieldAddr (tyF rfl) rfl rfl ?_ | refine WL.not rfl rfl ?_ | refine WL.pick_t rfl rfl rfl ?_ | refine WL.pick_f rfl rfl rfl ?_ | refine WL.want rfl rfl ?_ | refine WL.skip rfl rfl rfl rfl ?_ | refine WL.extract rfl rfl rfl ?_ | refine WL.nilCheck rfl rfl ?_)
    refine WL.store (o' := 2) (tyP rfl) rfl rfl rfl hrx (by first | omega | (simp; done) | (simp; omega)) (by simp) ?_
    intro w3 hg3 hz3 hr3
    refine ⟨trivial, ?_⟩
    rw [spl2] at hr3
    have hci3 : (((st.n + m - 8 * j : Nat) : Int) - 8) = ((st.n + m - 8 * (j + 1) : Nat) : Int) := by omega
    rw [hci3] at hr3
    have ho3 := hox.kept hg3 (.inr (own_ne_row hox hrx (by decide)))
    have hr3d := hr3.up (Up.drew w3)
    have ho3d := ownsRow_up ho3 (Up.drew w3)
    have hs3 := (hsx.own hg3).drew
    have hB3 : B ≤ w3.drew.heap.size := Nat.le_trans hw.le hs3.size
    repeat (first | refine WL.move rfl rfl ?_ | refine WL.assign rfl rfl ?_ | refine W.seq ?_ | refine W.region ?_ | refine WL.nil ?_ | refine Post.next ?_ | refine Post.tail ?_ | refine W.cond_t rfl ?_ | refine W.cond_f rfl ?_ | refine W.block ?_ | refine W.skip ?_ | refine W.exit ?_ | refine W.ret ?_ | refine Post.block_exit ?_ | refine Post.block_other rfl ?_ | refine Post.then_exit ?_ | refine Post.then_ret ?_ | refine Post.block_ret ?_ | refine Post.block_normal ?_ | refine WL.lenS (tyS rfl) rfl rfl ?_ | refine WL.lenStr und9 rfl rfl ?_ | refine WL.fieldAddr (tyF rfl) rfl rfl ?_ | refine WL.not rfl rfl ?_ | refine WL.pick_t rfl rfl rfl ?_ | refine WL.pick_f rfl rfl rfl ?_ | refine WL.want rfl rfl ?_ | refine WL.skip rfl rfl rfl rfl ?_ | refine WL.extract rfl rfl rfl ?_ | refine WL.nilCheck rfl rfl ?_)
    refine W.region_f [(0, true), (1, true), (2, true), (3, true), (4, true), (5, true), (6, true), (7, true), (8, true), (9, true), (10, true), (11, true), (12, true), (13, true), (14, true), (15, false), (16, false)] [17, 18, 19] (fun w' => Row w' b [u, .int .u64 (A : Int), .int .u64 ((st.n + m - 8 * (j + 1) : Nat) : Int)] 63) mixed (by kernel_rfl) hr3d ?_
    repeat (first | refine WL.move rfl rfl ?_ | refine WL.assign rfl rfl ?_ | refine W.seq ?_ | refine W.region ?_ | refine WL.nil ?_ | refine Post.next ?_ | refine Post.tail ?_ | refine W.cond_t rfl ?_ | refine W.cond_f rfl ?_ | refine W.block ?_ | refine W.skip ?_ | refine W.exit ?_ | refine W.ret ?_ | refine Post.block_exit ?_ | refine Post.block_other rfl ?_ | refine Post.then_exit ?_ | refine Post.then_ret ?_ | refine Post.block_ret ?_ | refine Post.block_normal ?_ | refine WL.lenS (tyS rfl) rfl rfl ?_ | refine WL.lenStr und9 rfl rfl ?_ | refine WL.fieldAddr (tyF rfl) rfl rfl ?_ | refine WL.not rfl rfl ?_ | refine WL.pick_t rfl rfl rfl ?_ | refine WL.pick_f rfl rfl rfl ?_ | refine WL.want rfl rfl ?_ | refine WL.skip rfl rfl rfl rfl ?_ | refine WL.extract rfl rfl rfl ?_ | refine WL.nilCheck rfl rfl ?_)
    refine WL.loadC (o' := 0) (tyP rfl) rfl (fun w' h => Row.cell h rfl) (by first | omega | (simp; done) | (simp; omega)) rfl ?_
    repeat (first | refine WL.move rfl rfl ?_ | refine WL.assign rfl rfl ?_ | refine W.seq ?_ | refine W.region ?_ | refine WL.nil ?_ | refine Post.next ?_ | refine Post.tail ?_ | refine W.cond_t rfl ?_ | refine W.cond_f rfl ?_ | refine W.block ?_ | refine W.skip ?_ | refine W.exit ?_ | refine W.ret ?_ | refine Post.block_exit ?_ | refine Post.block_other rfl ?_ | refine Post.then_exit ?_ | refine Post.then_ret ?_ | refine Post.block_ret ?_ | refine Post.block_normal ?_ | refine WL.lenS (tyS rfl) rfl rfl ?_ | refine WL.lenStr und9 rfl rfl ?_ | refine WL.fieldAddr (tyF rfl) rfl rfl ?_ | refine WL.not rfl rfl ?_ | refine WL.pick_t rfl rfl rfl ?_ | refine WL.pick_f rfl rfl rfl ?_ | refine WL.want rfl rfl ?_ | refine WL.skip rfl rfl rfl rfl ?_ | refine WL.extract rfl rfl rfl ?_ | refine WL.nilCheck rfl rfl ?_)
    refine WL.loadC (o' := 1) (tyP rfl) rfl (fun w' h => Row.cell h rfl) (by first | omega | (simp; done) | (simp; omega)) rfl ?_
    repeat (first | refine WL.move rfl rfl ?_ | refine WL.assign rfl rfl ?_ | refine W.seq ?_ | refine W.region ?_ | refine WL.nil ?_ | refine Post.next ?_ | refine Post.tail ?_ | refine W.cond_t rfl ?_ | refine W.cond_f rfl ?_ | refine W.block ?_ | refine W.skip ?_ | refine W.exit ?_ | refine W.ret ?_ | refine Post.block_exit ?_ | refine Post.block_other rfl ?_ | refine Post.then_exit ?_ | refine Post.then_ret ?_ | refine Post.block_ret ?_ | refine Post.block_normal ?_ | refine WL.lenS (tyS rfl) rfl rfl ?_ | refine WL.lenStr und9 rfl rfl ?_ | refine WL.fieldAddr (tyF rfl) rfl rfl ?_ | refine WL.not rfl rfl ?_ | refine WL.pick_t rfl rfl rfl ?_ | refine WL.pick_f rfl rfl rfl ?_ | refine WL.want rfl rfl ?_ | refine WL.skip rfl rfl rfl rfl ?_ | refine WL.extract rfl rfl rfl ?_ | refine WL.nilCheck rfl rfl ?_)
    refine WL.loadC (o' := 2) (tyP rfl) rfl (fun w' h => Row.cell h rfl) (by first | omega | (simp; done) | (simp; omega)) rfl ?_
    repeat (first | refine WL.move rfl rfl ?_ | refine WL.assign rfl rfl ?_ | refine W.seq ?_ | refine W.region ?_ | refine WL.nil ?_ | refine Post.next ?_ | refine Post.tail ?_ | refine W.cond_t rfl ?_ | refine W.cond_f rfl ?_ | refine W.block ?_ | refine W.skip ?_ | refine W.exit ?_ | refine W.ret ?_ | refine Post.block_exit ?_ | refine Post.block_other rfl ?_ | refine Post.then_exit ?_ | refine Post.then_ret ?_ | refine Post.block_ret ?_ | refine Post.block_normal ?_ | refine WL.lenS (tyS rfl) rfl rfl ?_ | refine WL.lenStr und9 rfl rfl ?_ | refine WL.fieldAddr (tyF rfl) rfl rfl ?_ | refine WL.not rfl rfl ?_ | refine WL.pick_t rfl rfl rfl ?_ | refine WL.pick_f rfl rfl rfl ?_ | refine WL.want rfl rfl ?_ | refine WL.skip rfl rfl rfl rfl ?_ | refine WL.extract rfl rfl rfl ?_ | refine WL.nilCheck rfl rfl ?_)
    refine WL.shr rfl rfl (by omega) rfl ?_
    rw [shr_byte A _ hA]
    refine WL.conv (kd' := .u8) (tyI rfl) (tyI rfl) rfl rfl ?_
    rw [u8_nat]
    repeat (first | refine WL.move rfl rfl ?_ | refine WL.assign rfl rfl ?_ | refine W.seq ?_ | refine W.region ?_ | refine WL.nil ?_ | refine Post.next ?_ | refine Post.tail ?_ | refine W.cond_t rfl ?_ | refine W.cond_f rfl ?_ | refine W.block ?_ | refine W.skip ?_ | refine W.exit ?_ | refine W.ret ?_ | refine Post.block_exit ?_ | refine Post.block_other rfl ?_ | refine Post.then_exit ?_ | refine Post.then_ret ?_ | refine Post.block_ret ?_ | refine Post.block_normal ?_ | refine WL.lenS (tyS rfl) rfl rfl ?_ | refine WL.lenStr und9 rfl rfl ?_ | refine WL.fieldAddr (tyF rfl) rfl rfl ?_ | refine WL.not rfl rfl ?_ | refine WL.pick_t rfl rfl rfl ?_ | refine WL.pick_f rfl rfl rfl ?_ | refine WL.want rfl rfl ?_ | refine WL.skip rfl rfl rfl rfl ?_ | refine WL.extract rfl rfl rfl ?_ | refine WL.nilCheck rfl rfl ?_)
    refine WL.buildSlice1 make23 rfl rfl rfl ?_
    intro wb hgb hzb hrb
    refine ⟨hr3d.up (Up.grown hgb), ?_⟩
    have hob := ownsRow_up ho3d (Up.grown hgb)
    have hrb3 := hr3d.up (Up.grown hgb)
    have hBb : B ≤ wb.heap.size := Nat.le_trans hB3 hgb.size
    refine WL.appendL make23 rfl rfl hob hrb rfl (by simp [Value.oneCell']) (by omega) (by omega) hBb rfl ?_
    intro u' wc hoc hgc hlc _
    have hrc := hrb3.kept hgc (own_ne_row hob hrb3 (by decide))
    refine ⟨hrc, ?_⟩
    repeat (first | refine WL.move rfl rfl ?_ | refine WL.assign rfl rfl ?_ | refine W.seq ?_ | refine W.region ?_ | refine WL.nil ?_ | refine Post.next ?_ | refine Post.tail ?_ | refine W.cond_t rfl ?_ | refine W.cond_f rfl ?_ | refine W.block ?_ | refine W.skip ?_ | refine W.exit ?_ | refine W.ret ?_ | refine Post.block_exit ?_ | refine Post.block_other rfl ?_ | refine Post.then_exit ?_ | refine Post.then_ret ?_ | refine Post.block_ret ?_ | refine Post.block_normal ?_ | refine WL.lenS (tyS rfl) rfl rfl ?_ | refine WL.lenStr und9 rfl rfl ?_ | refine WL.fieldAddr (tyF rfl) rfl rfl ?_ | refine WL.not rfl rfl ?_ | refine WL.pick_t rfl rfl rfl ?_ | refine WL.pick_f rfl rfl rfl ?_ | refine WL.want rfl rfl ?_ | refine WL.skip rfl rfl rfl rfl ?_ | refine WL.extract rfl rfl rfl ?_ | refine WL.nilCheck rfl rfl ?_)
    refine Post.fin ?_
    repeat (first | refine WL.move rfl rfl ?_ | refine WL.assign rfl rfl ?_ | refine W.seq ?_ | refine W.region ?_ | refine WL.nil ?_ | refine Post.next ?_ | refine Post.tail ?_ | refine W.cond_t rfl ?_ | refine W.cond_f rfl ?_ | refine W.block ?_ | refine W.skip ?_ | refine W.exit ?_ | refine W.ret ?_ | refine Post.block_exit ?_ | refine Post.block_other rfl ?_ | refine Post.then_exit ?_ | refine Post.then_ret ?_ | refine Post.block_ret ?_ | refine Post.block_normal ?_ | refine WL.lenS (tyS rfl) rfl rfl ?_ | refine WL.lenStr und9 rfl rfl ?_ | refine WL.fieldAddr (tyF rfl) rfl rfl ?_ | refine WL.not rfl rfl ?_ | refine WL.pick_t rfl rfl rfl ?_ | refine WL.pick_f rfl rfl rfl ?_ | refine WL.want rfl rfl ?_ | refine WL.skip rfl rfl rfl rfl ?_ | refine WL.extract rfl rfl rfl ?_ | refine WL.nilCheck rfl rfl ?_)
    refine WL.store (o' := 0) (tyP rfl) rfl rfl (ownOne hoc) hrc (by first | omega | (simp; done) | (simp; omega)) (by simp) ?_
    intro w4 hg4 hz4 hr4
    refine ⟨trivial, ?_⟩
    rw [spl0] at hr4
    have ho4 := (own_int_snoc hoc).kept hg4 (.inr (own_ne_row hoc hrc (by decide)))
    have hs4 := (hs3.app hgb hgc hlc).own hg4
    repeat (first | refine WL.move rfl rfl ?_ | refine WL.assign rfl rfl ?_ | refine W.seq ?_ | refine W.region ?_ | refine WL.nil ?_ | refine Post.next ?_ | refine Post.tail ?_ | refine W.cond_t rfl ?_ | refine W.cond_f rfl ?_ | refine W.block ?_ | refine W.skip ?_ | refine W.exit ?_ | refine W.ret ?_ | refine Post.block_exit ?_ | refine Post.block_other rfl ?_ | refine Post.then_exit ?_ | refine Post.then_ret ?_ | refine Post.block_ret ?_ | refine Post.block_normal ?_ | refine WL.lenS (tyS rfl) rfl rfl ?_ | refine WL.lenStr und9 rfl rfl ?_ | refine WL.fieldAddr (tyF rfl) rfl rfl ?_ | refine WL.not rfl rfl ?_ | refine WL.pick_t rfl rfl rfl ?_ | refine WL.pick_f rfl rfl rfl ?_ | refine WL.want rfl rfl ?_ | refine WL.skip rfl rfl rfl rfl ?_ | refine WL.extract rfl rfl rfl ?_ | refine WL.nilCheck rfl rfl ?_)
    refine Post.round2 (j + 1) u' ⟨rfl, trivial⟩ ⟨by omega, hr4, ?_, hs4⟩ (by omega)
    rw [emitJ_succ, ← List.append_assoc]
    exact ho4
  · repeat (first | refine WL.move rfl rfl ?_ | refine WL.assign rfl rfl ?_ | refine W.seq ?_ | refine W.region ?_ | refine WL.nil ?_ | refine Post.next ?_ | refine Post.tail ?_ | refine W.cond_t rfl ?_ | refine W.cond_f rfl ?_ | refine W.block ?_ | refine W.skip ?_ | refine W.exit ?_ | refine W.ret ?_ | refine Post.block_exit ?_ | refine Post.block_other rfl ?_ | refine Post.then_exit ?_ | refine Post.then_ret ?_ | refine Post.block_ret ?_ | refine Post.block_normal ?_ | refine WL.lenS (tyS rfl) rfl rfl ?_ | refine WL.lenStr und9 rfl rfl ?_ | refine WL.fieldAddr (tyF rfl) rfl rfl ?_ | refine WL.not rfl rfl ?_ | refine WL.pick_t rfl rfl rfl ?_ | refine WL.pick_f rfl rfl rfl ?_ | refine WL.want rfl rfl ?_ | refine WL.skip rfl rfl rfl rfl ?_ | refine WL.extract rfl rfl rfl ?_ | refine WL.nilCheck rfl rfl ?_)
    have hje : j = (st.n + m) / 8 := by omega
    have hme : st.n + m - 8 * j = (st.n + m) % 8 := by omega
    refine Post.end0 rfl ⟨rfl, u, ⟨?_, ?_, Nat.le_trans hw.le hsx.size, ?_, ?_⟩, hsx⟩
    · show Row wx b [u, .int .u64 ((wrA st.acc x m : Nat) : Int), .int .u64 (((st.n + m) % 8 : Nat) : Int)] 63
      rw [hAd, ← hme]; exact hrx
    · show wx.ownsRow B 5 1 u (st.bs ++ emitJ (wrA st.acc x m) (st.n + m) ((st.n + m) / 8)).length _
      simp only [wr]
      rw [hAd, ← hje]; exact hox
    · show (st.n + m) % 8 ≤ 7
      omega
    · exact wrA_lt _ _ _
end Go.Lx
