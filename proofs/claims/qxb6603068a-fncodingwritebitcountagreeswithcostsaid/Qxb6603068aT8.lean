import Derived.Test.Qxb6603068aT6
namespace Go.Lx
open Go.Proofs Go.RowKit

theorem i64_pow {e : Nat} (he : e ≤ 17) : IntKind.i64.wrap (1 * 2 ^ (min ((e : Nat) : Int).toNat IntKind.i64.bits)) = ((2 ^ e : Nat) : Int) := by
  have h1 : min ((e : Nat) : Int).toNat IntKind.i64.bits = e := by
    rw [Int.toNat_natCast]
    show min e 64 = e
    omega
  have h2 := pow17 he
  have h3 : ((2 : Int) ^ e) = ((2 ^ e : Nat) : Int) := by rw [Int.natCast_pow]; rfl
  rw [h1, Int.one_mul, h3]
  generalize 2 ^ e = P at *
  exact i64w (by omega) (by omega)
theorem Src.At.up {s : Src} {w w' : World} (h : s.At w) (hu : Up w w') : s.At w' := ⟨fun t u h1 h2 => hu.cell (h.l t u h1 h2), fun i hi => hu.cell (h.c i hi), fun i hi => hu.cell (h.y i hi)⟩
theorem addr_of {k : IntKind} {w : World} {a : Option Addr} {xs : List Nat} (h : Ints k w a (natL xs)) : ∃ bk o, 0 < xs.length → a = some ⟨bk, o, none⟩ := by
  by_cases h0 : 0 < xs.length
  · obtain ⟨bk, o, e, _⟩ := natsGet h h0
    exact ⟨bk, o, fun _ => e⟩
  · exact ⟨0, 0, fun h => absurd h h0⟩
theorem cells_of {k : IntKind} {w : World} {a : Option Addr} {xs : List Nat} {bk o : Nat} (h : Ints k w a (natL xs)) (ha : 0 < xs.length → a = some ⟨bk, o, none⟩) : ∀ i, (hi : i < xs.length) → w.cell? ⟨bk, o + i, none⟩ = some (.int k (xs[i] : Int)) := by
  intro i hi
  obtain ⟨bk', o', e, hc⟩ := natsGet h hi
  have := ha (by omega)
  rw [this] at e
  cases e
  exact hc i hi
theorem tot_cons (o : Nat × Nat) (r : List (Nat × Nat)) : tot (o :: r) = o.2 + tot r := rfl
theorem tot_de (cur l : Nat) (r : List Nat) : tot (deOps cur (l :: r)) = 2 * (l - cur) + 2 * (cur - l) + 1 + tot (deOps l r) := by
  rw [deOps, tot_app, tot_app, tot_rep, tot_rep, tot_cons]
  omega
theorem descB_c (w : World) (bk o alpha c : Nat) (g : Nat → Nat) (hg : ∀ u, g u < 256) (ha : 1 ≤ alpha ∧ alpha ≤ 512) (hcell : ∀ q, q < alpha → w.cell? ⟨bk, o + q, none⟩ = some (.int .u8 (g q : Int))) :
    Calls Try.prog 27 #[.slice (some ⟨bk, o, none⟩) alpha c] w fun r w' => r = .returned (.int .i64 ((tot (codOps g alpha) : Nat) : Int)) ∧ w' = w := by
  refine Calls.of_W (args := [.slice (some ⟨bk, o, none⟩) alpha c]) Try.func27 rfl rfl rfl ?_
  have hlr : (lrow g alpha).length = alpha := by simp [lrow]
  have hg0 := hg 0
  have hc0 := hcell 0 (by omega)
  repeat (first | refine WL.move rfl rfl ?_ | refine WL.assign rfl rfl ?_ | refine W.seq ?_ | refine W.region ?_ | refine WL.nil ?_ | refine Post.next ?_ | refine Post.tail ?_ | refine W.cond_t rfl ?_ | refine W.cond_f rfl ?_ | refine W.block ?_ | refine W.skip ?_ | refine W.exit ?_ | refine W.ret ?_ | refine Post.block_exit ?_ | refine Post.block_other rfl ?_ | refine Post.then_exit ?_ | refine Post.then_ret ?_ | refine Post.block_ret ?_ | refine Post.block_normal ?_ | refine WL.lenS (tyS rfl) rfl rfl ?_ | refine WL.lenStr und9 rfl rfl ?_ | refine WL.fieldAddr (tyF rfl) rfl rfl ?_ | refine WL.not rfl rfl ?_ | refine WL.pick_t rfl rfl rfl ?_ | refine WL.pick_f rfl rfl rfl ?_ | refine WL.want rfl rfl ?_ | refine WL.skip rfl rfl rfl rfl ?_ | refine WL.extract rfl rfl rfl ?_ | refine WL.addI rfl rfl (by omega) rfl ?_ | refine WL.subI rfl rfl (by omega) rfl ?_ | refine WL.indexS (tyS rfl) rfl rfl (by omega) rfl ?_ | refine WL.indexA (tyR rfl) rfl rfl (by omega) rfl ?_)
  refine WL.load (o' := o + 0) (tyP rfl) rfl (fun _ e => e) hc0 (by first | omega | (simp; done) | (simp; omega)) rfl ?_
  refine WL.conv' (kd' := .i64) (tyI rfl) (tyI rfl) rfl (i64w (by omega) (by omega)) rfl ?_
  repeat (first | refine WL.move rfl rfl ?_ | refine WL.assign rfl rfl ?_ | refine W.seq ?_ | refine W.region ?_ | refine WL.nil ?_ | refine Post.next ?_ | refine Post.tail ?_ | refine W.cond_t rfl ?_ | refine W.cond_f rfl ?_ | refine W.block ?_ | refine W.skip ?_ | refine W.exit ?_ | refine W.ret ?_ | refine Post.block_exit ?_ | refine Post.block_other rfl ?_ | refine Post.then_exit ?_ | refine Post.then_ret ?_ | refine Post.block_ret ?_ | refine Post.block_normal ?_ | refine WL.lenS (tyS rfl) rfl rfl ?_ | refine WL.lenStr und9 rfl rfl ?_ | refine WL.fieldAddr (tyF rfl) rfl rfl ?_ | refine WL.not rfl rfl ?_ | refine WL.pick_t rfl rfl rfl ?_ | refine WL.pick_f rfl rfl rfl ?_ | refine WL.want rfl rfl ?_ | refine WL.skip rfl rfl rfl rfl ?_ | refine WL.extract rfl rfl rfl ?_ | refine WL.addI rfl rfl (by omega) rfl ?_ | refine WL.subI rfl rfl (by omega) rfl ?_ | refine WL.indexS (tyS rfl) rfl rfl (by omega) rfl ?_ | refine WL.indexA (tyR rfl) rfl rfl (by omega) rfl ?_)
  refine W.loop3 (fun (i z cur : Nat) => [(3, .int .i64 z), (4, .int .i64 cur), (12, .slice (some ⟨bk, o, none⟩) alpha c), (13, .int .i64 (alpha : Int)), (14, .int .i64 i)])
    (fun i z cur w' => w' = w ∧ i ≤ alpha ∧ cur < 256 ∧ z ≤ 5 + 511 * i ∧ z + tot (deOps cur ((lrow g alpha).drop i)) = tot (codOps g alpha)) (fun i _ _ => alpha - i) 0 5 (g 0) ⟨rfl, rfl, rfl, rfl, rfl, trivial⟩ ⟨rfl, by omega, hg0, by omega, rfl⟩ ?_
  rintro i z cur w1 ⟨rfl, hi, hcur, hz, heq⟩
  repeat (first | refine WL.move rfl rfl ?_ | refine WL.assign rfl rfl ?_ | refine W.seq ?_ | refine W.region ?_ | refine WL.nil ?_ | refine Post.next ?_ | refine Post.tail ?_ | refine W.cond_t rfl ?_ | refine W.cond_f rfl ?_ | refine W.block ?_ | refine W.skip ?_ | refine W.exit ?_ | refine W.ret ?_ | refine Post.block_exit ?_ | refine Post.block_other rfl ?_ | refine Post.then_exit ?_ | refine Post.then_ret ?_ | refine Post.block_ret ?_ | refine Post.block_normal ?_ | refine WL.lenS (tyS rfl) rfl rfl ?_ | refine WL.lenStr und9 rfl rfl ?_ | refine WL.fieldAddr (tyF rfl) rfl rfl ?_ | refine WL.not rfl rfl ?_ | refine WL.pick_t rfl rfl rfl ?_ | refine WL.pick_f rfl rfl rfl ?_ | refine WL.want rfl rfl ?_ | refine WL.skip rfl rfl rfl rfl ?_ | refine WL.extract rfl rfl rfl ?_ | refine WL.addI rfl rfl (by omega) rfl ?_ | refine WL.subI rfl rfl (by omega) rfl ?_ | refine WL.indexS (tyS rfl) rfl rfl (by omega) rfl ?_ | refine WL.indexA (tyR rfl) rfl rfl (by omega) rfl ?_)
  refine WL.lss rfl rfl rfl (fun hlt => ?_) (fun hge => ?_)
  · have hi' : i < alpha := by omega
    have hci := hcell i hi'
    have hgi := hg i
    have hdrop : (lrow g alpha).drop i = g i :: (lrow g alpha).drop (i + 1) := by
      rw [List.drop_eq_getElem_cons (by omega)]; simp [lrow]
    rw [hdrop, tot_de] at heq
    generalize hld : g i = l at *
    repeat (first | refine WL.move rfl rfl ?_ | refine WL.assign rfl rfl ?_ | refine W.seq ?_ | refine W.region ?_ | refine WL.nil ?_ | refine Post.next ?_ | refine Post.tail ?_ | refine W.cond_t rfl ?_ | refine W.cond_f rfl ?_ | refine W.block ?_ | refine W.skip ?_ | refine W.exit ?_ | refine W.ret ?_ | refine Post.block_exit ?_ | refine Post.block_other rfl ?_ | refine Post.then_exit ?_ | refine Post.then_ret ?_ | refine Post.block_ret ?_ | refine Post.block_normal ?_ | refine WL.lenS (tyS rfl) rfl rfl ?_ | refine WL.lenStr und9 rfl rfl ?_ | refine WL.fieldAddr (tyF rfl) rfl rfl ?_ | refine WL.not rfl rfl ?_ | refine WL.pick_t rfl rfl rfl ?_ | refine WL.pick_f rfl rfl rfl ?_ | refine WL.want rfl rfl ?_ | refine WL.skip rfl rfl rfl rfl ?_ | refine WL.extract rfl rfl rfl ?_ | refine WL.addI rfl rfl (by omega) rfl ?_ | refine WL.subI rfl rfl (by omega) rfl ?_ | refine WL.indexS (tyS rfl) rfl rfl (by omega) rfl ?_ | refine WL.indexA (tyR rfl) rfl rfl (by omega) rfl ?_)
    refine WL.load (o' := o + i) (tyP rfl) rfl (fun _ e => e) hci (by first | omega | (simp; done) | (simp; omega)) rfl ?_
    repeat (first | refine WL.move rfl rfl ?_ | refine WL.assign rfl rfl ?_ | refine W.seq ?_ | refine W.region ?_ | refine WL.nil ?_ | refine Post.next ?_ | refine Post.tail ?_ | refine W.cond_t rfl ?_ | refine W.cond_f rfl ?_ | refine W.block ?_ | refine W.skip ?_ | refine W.exit ?_ | refine W.ret ?_ | refine Post.block_exit ?_ | refine Post.block_other rfl ?_ | refine Post.then_exit ?_ | refine Post.then_ret ?_ | refine Post.block_ret ?_ | refine Post.block_normal ?_ | refine WL.lenS (tyS rfl) rfl rfl ?_ | refine WL.lenStr und9 rfl rfl ?_ | refine WL.fieldAddr (tyF rfl) rfl rfl ?_ | refine WL.not rfl rfl ?_ | refine WL.pick_t rfl rfl rfl ?_ | refine WL.pick_f rfl rfl rfl ?_ | refine WL.want rfl rfl ?_ | refine WL.skip rfl rfl rfl rfl ?_ | refine WL.extract rfl rfl rfl ?_ | refine WL.addI rfl rfl (by omega) rfl ?_ | refine WL.subI rfl rfl (by omega) rfl ?_ | refine WL.indexS (tyS rfl) rfl rfl (by omega) rfl ?_ | refine WL.indexA (tyR rfl) rfl rfl (by omega) rfl ?_)
    refine WL.conv' (kd' := .i64) (tyI rfl) (tyI rfl) rfl (i64w (by omega) (by omega)) rfl ?_
    repeat (first | refine WL.move rfl rfl ?_ | refine WL.assign rfl rfl ?_ | refine W.seq ?_ | refine W.region ?_ | refine WL.nil ?_ | refine Post.next ?_ | refine Post.tail ?_ | refine W.cond_t rfl ?_ | refine W.cond_f rfl ?_ | refine W.block ?_ | refine W.skip ?_ | refine W.exit ?_ | refine W.ret ?_ | refine Post.block_exit ?_ | refine Post.block_other rfl ?_ | refine Post.then_exit ?_ | refine Post.then_ret ?_ | refine Post.block_ret ?_ | refine Post.block_normal ?_ | refine WL.lenS (tyS rfl) rfl rfl ?_ | refine WL.lenStr und9 rfl rfl ?_ | refine WL.fieldAddr (tyF rfl) rfl rfl ?_ | refine WL.not rfl rfl ?_ | refine WL.pick_t rfl rfl rfl ?_ | refine WL.pick_f rfl rfl rfl ?_ | refine WL.want rfl rfl ?_ | refine WL.skip rfl rfl rfl rfl ?_ | refine WL.extract rfl rfl rfl ?_ | refine WL.addI rfl rfl (by omega) rfl ?_ | refine WL.subI rfl rfl (by omega) rfl ?_ | refine WL.indexS (tyS rfl) rfl rfl (by omega) rfl ?_ | refine WL.indexA (tyR rfl) rfl rfl (by omega) rfl ?_)
    refine WL.neg rfl rfl ?_
    rw [i64w (by omega) (by omega)]
    repeat (first | refine WL.move rfl rfl ?_ | refine WL.assign rfl rfl ?_ | refine W.seq ?_ | refine W.region ?_ | refine WL.nil ?_ | refine Post.next ?_ | refine Post.tail ?_ | refine W.cond_t rfl ?_ | refine W.cond_f rfl ?_ | refine W.block ?_ | refine W.skip ?_ | refine W.exit ?_ | refine W.ret ?_ | refine Post.block_exit ?_ | refine Post.block_other rfl ?_ | refine Post.then_exit ?_ | refine Post.then_ret ?_ | refine Post.block_ret ?_ | refine Post.block_normal ?_ | refine WL.lenS (tyS rfl) rfl rfl ?_ | refine WL.lenStr und9 rfl rfl ?_ | refine WL.fieldAddr (tyF rfl) rfl rfl ?_ | refine WL.not rfl rfl ?_ | refine WL.pick_t rfl rfl rfl ?_ | refine WL.pick_f rfl rfl rfl ?_ | refine WL.want rfl rfl ?_ | refine WL.skip rfl rfl rfl rfl ?_ | refine WL.extract rfl rfl rfl ?_ | refine WL.addI rfl rfl (by omega) rfl ?_ | refine WL.subI rfl rfl (by omega) rfl ?_ | refine WL.indexS (tyS rfl) rfl rfl (by omega) rfl ?_ | refine WL.indexA (tyR rfl) rfl rfl (by omega) rfl ?_)
    refine WL.maxI rfl rfl rfl ?_
    have hmx : max ((l : Int) - (cur : Int)) (0 - ((l : Int) - (cur : Int))) = (((l - cur) + (cur - l) : Nat) : Int) := by omega
    rw [hmx]
    refine WL.mulI rfl rfl (by omega) rfl ?_
    repeat (first | refine WL.move rfl rfl ?_ | refine WL.assign rfl rfl ?_ | refine W.seq ?_ | refine W.region ?_ | refine WL.nil ?_ | refine Post.next ?_ | refine Post.tail ?_ | refine W.cond_t rfl ?_ | refine W.cond_f rfl ?_ | refine W.block ?_ | refine W.skip ?_ | refine W.exit ?_ | refine W.ret ?_ | refine Post.block_exit ?_ | refine Post.block_other rfl ?_ | refine Post.then_exit ?_ | refine Post.then_ret ?_ | refine Post.block_ret ?_ | refine Post.block_normal ?_ | refine WL.lenS (tyS rfl) rfl rfl ?_ | refine WL.lenStr und9 rfl rfl ?_ | refine WL.fieldAddr (tyF rfl) rfl rfl ?_ | refine WL.not rfl rfl ?_ | refine WL.pick_t rfl rfl rfl ?_ | refine WL.pick_f rfl rfl rfl ?_ | refine WL.want rfl rfl ?_ | refine WL.skip rfl rfl rfl rfl ?_ | refine WL.extract rfl rfl rfl ?_ | refine WL.addI rfl rfl (by omega) rfl ?_ | refine WL.subI rfl rfl (by omega) rfl ?_ | refine WL.indexS (tyS rfl) rfl rfl (by omega) rfl ?_ | refine WL.indexA (tyR rfl) rfl rfl (by omega) rfl ?_)
    refine WL.conv' (kd' := .i64) (tyI rfl) (tyI rfl) rfl (i64w (by omega) (by omega)) rfl ?_
    repeat (first | refine WL.move rfl rfl ?_ | refine WL.assign rfl rfl ?_ | refine W.seq ?_ | refine W.region ?_ | refine WL.nil ?_ | refine Post.next ?_ | refine Post.tail ?_ | refine W.cond_t rfl ?_ | refine W.cond_f rfl ?_ | refine W.block ?_ | refine W.skip ?_ | refine W.exit ?_ | refine W.ret ?_ | refine Post.block_exit ?_ | refine Post.block_other rfl ?_ | refine Post.then_exit ?_ | refine Post.then_ret ?_ | refine Post.block_ret ?_ | refine Post.block_normal ?_ | refine WL.lenS (tyS rfl) rfl rfl ?_ | refine WL.lenStr und9 rfl rfl ?_ | refine WL.fieldAddr (tyF rfl) rfl rfl ?_ | refine WL.not rfl rfl ?_ | refine WL.pick_t rfl rfl rfl ?_ | refine WL.pick_f rfl rfl rfl ?_ | refine WL.want rfl rfl ?_ | refine WL.skip rfl rfl rfl rfl ?_ | refine WL.extract rfl rfl rfl ?_ | refine WL.addI rfl rfl (by omega) rfl ?_ | refine WL.subI rfl rfl (by omega) rfl ?_ | refine WL.indexS (tyS rfl) rfl rfl (by omega) rfl ?_ | refine WL.indexA (tyR rfl) rfl rfl (by omega) rfl ?_)
    exact Post.round3 (i + 1) (z + (2 * ((l - cur) + (cur - l)) + 1)) l ⟨(by first | rfl | (simp [look]; done) | (simp [look]; omega)), rfl, rfl, rfl, (by first | rfl | (simp [look]; done) | (simp [look]; omega)), trivial⟩ ⟨rfl, by omega, by omega, by omega, by omega⟩ (by omega)
  · rw [List.drop_of_length_le (by omega), deOps] at heq
    have h0 : tot [] = 0 := rfl
    repeat (first | refine WL.move rfl rfl ?_ | refine WL.assign rfl rfl ?_ | refine W.seq ?_ | refine W.region ?_ | refine WL.nil ?_ | refine Post.next ?_ | refine Post.tail ?_ | refine W.cond_t rfl ?_ | refine W.cond_f rfl ?_ | refine W.block ?_ | refine W.skip ?_ | refine W.exit ?_ | refine W.ret ?_ | refine Post.block_exit ?_ | refine Post.block_other rfl ?_ | refine Post.then_exit ?_ | refine Post.then_ret ?_ | refine Post.block_ret ?_ | refine Post.block_normal ?_ | refine WL.lenS (tyS rfl) rfl rfl ?_ | refine WL.lenStr und9 rfl rfl ?_ | refine WL.fieldAddr (tyF rfl) rfl rfl ?_ | refine WL.not rfl rfl ?_ | refine WL.pick_t rfl rfl rfl ?_ | refine WL.pick_f rfl rfl rfl ?_ | refine WL.want rfl rfl ?_ | refine WL.skip rfl rfl rfl rfl ?_ | refine WL.extract rfl rfl rfl ?_ | refine WL.addI rfl rfl (by omega) rfl ?_ | refine WL.subI rfl rfl (by omega) rfl ?_ | refine WL.indexS (tyS rfl) rfl rfl (by omega) rfl ?_ | refine WL.indexA (tyR rfl) rfl rfl (by omega) rfl ?_)
    exact Post.ret1 rfl rfl ⟨by rw [show tot (codOps g alpha) = z by omega], rfl⟩
theorem tot_de_le {g : Nat → Nat} (hg : ∀ u, g u < 256) : ∀ (l : List Nat) (cur : Nat), cur < 256 → (∀ x ∈ l, x < 256) → tot (deOps cur l) ≤ 511 * l.length
  | [], cur, _, _ => by simp [deOps, tot]
  | x :: r, cur, hc, hx => by
    have h1 := hx x (List.mem_cons_self ..)
    have ih := tot_de_le hg r x h1 (fun y hy => hx y (List.mem_cons_of_mem _ hy))
    rw [tot_de, List.length_cons]
    omega
theorem tot_cod_le (g : Nat → Nat) (hg : ∀ u, g u < 256) {alpha : Nat} (ha : alpha ≤ 512) : tot (codOps g alpha) ≤ 261637 := by
  have h1 := tot_de_le hg (lrow g alpha) (g 0) (hg 0) (fun x hx => by
    obtain ⟨i, _, rfl⟩ := List.mem_map.1 hx
    exact hg i)
  have h2 : (lrow g alpha).length = alpha := by simp [lrow]
  unfold codOps
  rw [tot_cons]
  simp only
  omega
theorem zzDesc_c (w : World) (bk o alpha c : Nat) (g : Nat → Nat) (hg : ∀ u, g u < 256) (ha : 1 ≤ alpha ∧ alpha ≤ 512) (hcell : ∀ q, q < alpha → w.cell? ⟨bk, o + q, none⟩ = some (.int .u8 (g q : Int))) :
    Calls Try.prog 18 #[.slice (some ⟨bk, o, none⟩) alpha c] w fun r w' => r = .returned (.int .i64 ((tot (codOps g alpha) : Nat) : Int)) ∧ w' = w := by
  refine Calls.of_W (args := [.slice (some ⟨bk, o, none⟩) alpha c]) Try.func18 rfl rfl rfl ?_
  repeat (first | refine WL.move rfl rfl ?_ | refine WL.assign rfl rfl ?_ | refine W.seq ?_ | refine W.region ?_ | refine WL.nil ?_ | refine Post.next ?_ | refine Post.tail ?_ | refine W.cond_t rfl ?_ | refine W.cond_f rfl ?_ | refine W.block ?_ | refine W.skip ?_ | refine W.exit ?_ | refine W.ret ?_ | refine Post.block_exit ?_ | refine Post.block_other rfl ?_ | refine Post.then_exit ?_ | refine Post.then_ret ?_ | refine Post.block_ret ?_ | refine Post.block_normal ?_ | refine WL.lenS (tyS rfl) rfl rfl ?_ | refine WL.lenStr und9 rfl rfl ?_ | refine WL.fieldAddr (tyF rfl) rfl rfl ?_ | refine WL.not rfl rfl ?_ | refine WL.pick_t rfl rfl rfl ?_ | refine WL.pick_f rfl rfl rfl ?_ | refine WL.want rfl rfl ?_ | refine WL.skip rfl rfl rfl rfl ?_ | refine WL.extract rfl rfl rfl ?_ | refine WL.addI rfl rfl (by omega) rfl ?_ | refine WL.subI rfl rfl (by omega) rfl ?_ | refine WL.indexS (tyS rfl) rfl rfl (by omega) rfl ?_ | refine WL.indexA (tyR rfl) rfl rfl (by omega) rfl ?_)
  refine WL.call _ (fnT rfl) (args1 rfl) (descB_c w bk o alpha c g hg ha hcell) (by rintro e w' ⟨rfl, _⟩; exact ⟨_, rfl⟩) rfl ?_
  rintro v w1 ⟨hv, rfl⟩
  cases hv
  refine ⟨trivial, ?_⟩
  repeat (first | refine WL.move rfl rfl ?_ | refine WL.assign rfl rfl ?_ | refine W.seq ?_ | refine W.region ?_ | refine WL.nil ?_ | refine Post.next ?_ | refine Post.tail ?_ | refine W.cond_t rfl ?_ | refine W.cond_f rfl ?_ | refine W.block ?_ | refine W.skip ?_ | refine W.exit ?_ | refine W.ret ?_ | refine Post.block_exit ?_ | refine Post.block_other rfl ?_ | refine Post.then_exit ?_ | refine Post.then_ret ?_ | refine Post.block_ret ?_ | refine Post.block_normal ?_ | refine WL.lenS (tyS rfl) rfl rfl ?_ | refine WL.lenStr und9 rfl rfl ?_ | refine WL.fieldAddr (tyF rfl) rfl rfl ?_ | refine WL.not rfl rfl ?_ | refine WL.pick_t rfl rfl rfl ?_ | refine WL.pick_f rfl rfl rfl ?_ | refine WL.want rfl rfl ?_ | refine WL.skip rfl rfl rfl rfl ?_ | refine WL.extract rfl rfl rfl ?_ | refine WL.addI rfl rfl (by omega) rfl ?_ | refine WL.subI rfl rfl (by omega) rfl ?_ | refine WL.indexS (tyS rfl) rfl rfl (by omega) rfl ?_ | refine WL.indexA (tyR rfl) rfl rfl (by omega) rfl ?_)
  exact Post.ret1 rfl rfl ⟨rfl, rfl⟩
theorem zzMove_c (w : World) (g : Nat) (M : List Int) (t : Int) (hr : Row w g (bytesC M) 46) (hl : M.length = 6) (ht : t ∈ M) :
    Calls Try.prog 17 #[.pointer (some ⟨g, 0, none⟩), .int .u8 t] w fun r w' => r = .returned (.int .i64 (posL t M : Nat)) ∧ Row w' g (bytesC (t :: outL t M)) 46 ∧ w.grownBy w' (some g) := by
  refine Calls.of_W (args := [.pointer (some ⟨g, 0, none⟩), .int .u8 t]) Try.func17 rfl rfl rfl ?_
  repeat (first | refine WL.move rfl rfl ?_ | refine WL.assign rfl rfl ?_ | refine W.seq ?_ | refine W.region ?_ | refine WL.nil ?_ | refine Post.next ?_ | refine Post.tail ?_ | refine W.cond_t rfl ?_ | refine W.cond_f rfl ?_ | refine W.block ?_ | refine W.skip ?_ | refine W.exit ?_ | refine W.ret ?_ | refine Post.block_exit ?_ | refine Post.block_other rfl ?_ | refine Post.then_exit ?_ | refine Post.then_ret ?_ | refine Post.block_ret ?_ | refine Post.block_normal ?_ | refine WL.lenS (tyS rfl) rfl rfl ?_ | refine WL.lenStr und9 rfl rfl ?_ | refine WL.fieldAddr (tyF rfl) rfl rfl ?_ | refine WL.not rfl rfl ?_ | refine WL.pick_t rfl rfl rfl ?_ | refine WL.pick_f rfl rfl rfl ?_ | refine WL.want rfl rfl ?_ | refine WL.skip rfl rfl rfl rfl ?_ | refine WL.extract rfl rfl rfl ?_ | refine WL.addI rfl rfl (by omega) rfl ?_ | refine WL.subI rfl rfl (by omega) rfl ?_ | refine WL.indexS (tyS rfl) rfl rfl (by omega) rfl ?_ | refine WL.indexA (tyR rfl) rfl rfl (by omega) rfl ?_)
  refine WL.call _ (fnT rfl) (args2 rfl rfl) (moveChoice_c w g M t hr hl ht) (by rintro e w' ⟨rfl, _⟩; exact ⟨_, rfl⟩) rfl ?_
  rintro v w1 ⟨hv, h1, h2⟩
  cases hv
  refine ⟨trivial, ?_⟩
  repeat (first | refine WL.move rfl rfl ?_ | refine WL.assign rfl rfl ?_ | refine W.seq ?_ | refine W.region ?_ | refine WL.nil ?_ | refine Post.next ?_ | refine Post.tail ?_ | refine W.cond_t rfl ?_ | refine W.cond_f rfl ?_ | refine W.block ?_ | refine W.skip ?_ | refine W.exit ?_ | refine W.ret ?_ | refine Post.block_exit ?_ | refine Post.block_other rfl ?_ | refine Post.then_exit ?_ | refine Post.then_ret ?_ | refine Post.block_ret ?_ | refine Post.block_normal ?_ | refine WL.lenS (tyS rfl) rfl rfl ?_ | refine WL.lenStr und9 rfl rfl ?_ | refine WL.fieldAddr (tyF rfl) rfl rfl ?_ | refine WL.not rfl rfl ?_ | refine WL.pick_t rfl rfl rfl ?_ | refine WL.pick_f rfl rfl rfl ?_ | refine WL.want rfl rfl ?_ | refine WL.skip rfl rfl rfl rfl ?_ | refine WL.extract rfl rfl rfl ?_ | refine WL.addI rfl rfl (by omega) rfl ?_ | refine WL.subI rfl rfl (by omega) rfl ?_ | refine WL.indexS (tyS rfl) rfl rfl (by omega) rfl ?_ | refine WL.indexA (tyR rfl) rfl rfl (by omega) rfl ?_)
  exact Post.ret1 rfl rfl ⟨rfl, h1, h2⟩
/-- The lengths of the symbols' codes, the first i. -/
def symT (f : Nat → Nat → Nat) (ch ys : List Nat) : Nat → Nat
  | 0 => 0
  | i + 1 => symT f ch ys i + f (ch.getD (i / 50) 0) (ys.getD i 0)
theorem symT_tot (s : Src) (C : Nat → Nat → Nat) : ∀ i, tot ((List.range i).map (s.symOp C)) = symT s.f s.ch s.ys i
  | 0 => rfl
  | i + 1 => by
    rw [List.range_succ, List.map_append, tot_app, symT_tot s C i]
    simp [tot, symT, Src.symOp]
theorem symT_le {f : Nat → Nat → Nat} (hf : ∀ t u, f t u < 256) (ch ys : List Nat) : ∀ i, symT f ch ys i ≤ 255 * i
  | 0 => by simp [symT]
  | i + 1 => by
    have := symT_le hf ch ys i
    have := hf (ch.getD (i / 50) 0) (ys.getD i 0)
    rw [symT]; omega

set_option maxHeartbeats 16000000 in
theorem bc_c (w : World) (lv cv ov yv : Value) (k : Nat) (f : Nat → Nat → Nat) (ch ys : List Nat) (os : List Int) (bits al : Int) (acc n : Nat) (hl : LV w lv k f) (hk : k ≤ 9223372036854775807) (hf8 : ∀ t u, f t u < 256)
    (hc : IntsV .u8 w cv (natL ch)) (hcl : ch.length ≤ 9223372036854775807) (hc8 : ∀ x ∈ ch, x < 256) (ho : IntsV .u8 w ov os) (hol : os.length ≤ 9223372036854775807) (hy : IntsV .u16 w yv (natL ys)) (hyl : ys.length ≤ 9223372036854775807) (hy16 : ∀ x ∈ ys, x < 65536) (hacc : acc < 18446744073709551616) :
    Calls Try.prog 4 #[lv, cv, .int .i64 bits, ov, .int .u64 (acc : Int), .int .u64 (n : Int), yv, .int .i64 al] w fun e w' => e = .returned (.bool true) ∧ Up w w' := by
  obtain ⟨la, lc, rfl, hlx⟩ := hl
  obtain ⟨ca, cc, hcv, hce, hccap⟩ := hc
  rw [natL_len] at hcv hccap
  subst hcv
  obtain ⟨oa, oc, rfl, hoe, hocap⟩ := ho
  obtain ⟨ya, yc, hyv, hye, hycap⟩ := hy
  rw [natL_len] at hyv hycap
  subst hyv
  refine Calls.of_W (args := [.slice la k lc, .slice ca ch.length cc, .int .i64 bits, .slice oa os.length oc, .int .u64 (acc : Int), .int .u64 (n : Int), .slice ya ys.length yc, .int .i64 al]) Try.func4 rfl rfl rfl ?_
  repeat (first | refine WL.move rfl rfl ?_ | refine WL.assign rfl rfl ?_ | refine W.seq ?_ | refine W.region ?_ | refine WL.nil ?_ | refine Post.next ?_ | refine Post.tail ?_ | refine W.cond_t rfl ?_ | refine W.cond_f rfl ?_ | refine W.block ?_ | refine W.skip ?_ | refine W.exit ?_ | refine W.ret ?_ | refine Post.block_exit ?_ | refine Post.block_other rfl ?_ | refine Post.then_exit ?_ | refine Post.then_ret ?_ | refine Post.block_ret ?_ | refine Post.block_normal ?_ | refine WL.lenS (tyS rfl) rfl rfl ?_ | refine WL.lenStr und9 rfl rfl ?_ | refine WL.fieldAddr (tyF rfl) rfl rfl ?_ | refine WL.not rfl rfl ?_ | refine WL.pick_t rfl rfl rfl ?_ | refine WL.pick_f rfl rfl rfl ?_ | refine WL.want rfl rfl ?_ | refine WL.skip rfl rfl rfl rfl ?_ | refine WL.extract rfl rfl rfl ?_)
  refine WL.call _ (fnT rfl) (args8 rfl rfl rfl rfl rfl rfl rfl rfl) (zzBc_c w la ca oa ya k lc ch.length cc os.length oc ys.length yc _ _ _ _ hk hcl hol hyl) (by rintro e w' ⟨_, rfl, _⟩; exact ⟨_, rfl⟩) rfl ?_
  rintro v w1 ⟨r, hv, rfl⟩
  cases hv
  refine ⟨trivial, ?_⟩
  cases r
  · repeat (first | refine WL.move rfl rfl ?_ | refine WL.assign rfl rfl ?_ | refine W.seq ?_ | refine W.region ?_ | refine WL.nil ?_ | refine Post.next ?_ | refine Post.tail ?_ | refine W.cond_t rfl ?_ | refine W.cond_f rfl ?_ | refine W.block ?_ | refine W.skip ?_ | refine W.exit ?_ | refine W.ret ?_ | refine Post.block_exit ?_ | refine Post.block_other rfl ?_ | refine Post.then_exit ?_ | refine Post.then_ret ?_ | refine Post.block_ret ?_ | refine Post.block_normal ?_ | refine WL.lenS (tyS rfl) rfl rfl ?_ | refine WL.lenStr und9 rfl rfl ?_ | refine WL.fieldAddr (tyF rfl) rfl rfl ?_ | refine WL.not rfl rfl ?_ | refine WL.pick_t rfl rfl rfl ?_ | refine WL.pick_f rfl rfl rfl ?_ | refine WL.want rfl rfl ?_ | refine WL.skip rfl rfl rfl rfl ?_ | refine WL.extract rfl rfl rfl ?_)
    exact Post.ret1 rfl rfl ⟨rfl, Up.refl _⟩
  repeat (first | refine WL.move rfl rfl ?_ | refine WL.assign rfl rfl ?_ | refine W.seq ?_ | refine W.region ?_ | refine WL.nil ?_ | refine Post.next ?_ | refine Post.tail ?_ | refine W.cond_t rfl ?_ | refine W.cond_f rfl ?_ | refine W.block ?_ | refine W.skip ?_ | refine W.exit ?_ | refine W.ret ?_ | refine Post.block_exit ?_ | refine Post.block_other rfl ?_ | refine Post.then_exit ?_ | refine Post.then_ret ?_ | refine Post.block_ret ?_ | refine Post.block_normal ?_ | refine WL.lenS (tyS rfl) rfl rfl ?_ | refine WL.lenStr und9 rfl rfl ?_ | refine WL.fieldAddr (tyF rfl) rfl rfl ?_ | refine WL.not rfl rfl ?_ | refine WL.pick_t rfl rfl rfl ?_ | refine WL.pick_f rfl rfl rfl ?_ | refine WL.want rfl rfl ?_ | refine WL.skip rfl rfl rfl rfl ?_ | refine WL.extract rfl rfl rfl ?_)
  refine WL.gtr rfl rfl rfl (fun hg => ?_) (fun hk6 => ?_)
  · repeat (first | refine WL.move rfl rfl ?_ | refine WL.assign rfl rfl ?_ | refine W.seq ?_ | refine W.region ?_ | refine WL.nil ?_ | refine Post.next ?_ | refine Post.tail ?_ | refine W.cond_t rfl ?_ | refine W.cond_f rfl ?_ | refine W.block ?_ | refine W.skip ?_ | refine W.exit ?_ | refine W.ret ?_ | refine Post.block_exit ?_ | refine Post.block_other rfl ?_ | refine Post.then_exit ?_ | refine Post.then_ret ?_ | refine Post.block_ret ?_ | refine Post.block_normal ?_ | refine WL.lenS (tyS rfl) rfl rfl ?_ | refine WL.lenStr und9 rfl rfl ?_ | refine WL.fieldAddr (tyF rfl) rfl rfl ?_ | refine WL.not rfl rfl ?_ | refine WL.pick_t rfl rfl rfl ?_ | refine WL.pick_f rfl rfl rfl ?_ | refine WL.want rfl rfl ?_ | refine WL.skip rfl rfl rfl rfl ?_ | refine WL.extract rfl rfl rfl ?_)
    exact Post.ret1 rfl rfl ⟨rfl, Up.refl _⟩
  repeat (first | refine WL.move rfl rfl ?_ | refine WL.assign rfl rfl ?_ | refine W.seq ?_ | refine W.region ?_ | refine WL.nil ?_ | refine Post.next ?_ | refine Post.tail ?_ | refine W.cond_t rfl ?_ | refine W.cond_f rfl ?_ | refine W.block ?_ | refine W.skip ?_ | refine W.exit ?_ | refine W.ret ?_ | refine Post.block_exit ?_ | refine Post.block_other rfl ?_ | refine Post.then_exit ?_ | refine Post.then_ret ?_ | refine Post.block_ret ?_ | refine Post.block_normal ?_ | refine WL.lenS (tyS rfl) rfl rfl ?_ | refine WL.lenStr und9 rfl rfl ?_ | refine WL.fieldAddr (tyF rfl) rfl rfl ?_ | refine WL.not rfl rfl ?_ | refine WL.pick_t rfl rfl rfl ?_ | refine WL.pick_f rfl rfl rfl ?_ | refine WL.want rfl rfl ?_ | refine WL.skip rfl rfl rfl rfl ?_ | refine WL.extract rfl rfl rfl ?_)
  refine WL.gtr rfl rfl rfl (fun hg => ?_) (fun hc16 => ?_)
  · repeat (first | refine WL.move rfl rfl ?_ | refine WL.assign rfl rfl ?_ | refine W.seq ?_ | refine W.region ?_ | refine WL.nil ?_ | refine Post.next ?_ | refine Post.tail ?_ | refine W.cond_t rfl ?_ | refine W.cond_f rfl ?_ | refine W.block ?_ | refine W.skip ?_ | refine W.exit ?_ | refine W.ret ?_ | refine Post.block_exit ?_ | refine Post.block_other rfl ?_ | refine Post.then_exit ?_ | refine Post.then_ret ?_ | refine Post.block_ret ?_ | refine Post.block_normal ?_ | refine WL.lenS (tyS rfl) rfl rfl ?_ | refine WL.lenStr und9 rfl rfl ?_ | refine WL.fieldAddr (tyF rfl) rfl rfl ?_ | refine WL.not rfl rfl ?_ | refine WL.pick_t rfl rfl rfl ?_ | refine WL.pick_f rfl rfl rfl ?_ | refine WL.want rfl rfl ?_ | refine WL.skip rfl rfl rfl rfl ?_ | refine WL.extract rfl rfl rfl ?_)
    exact Post.ret1 rfl rfl ⟨rfl, Up.refl _⟩
  repeat (first | refine WL.move rfl rfl ?_ | refine WL.assign rfl rfl ?_ | refine W.seq ?_ | refine W.region ?_ | refine WL.nil ?_ | refine Post.next ?_ | refine Post.tail ?_ | refine W.cond_t rfl ?_ | refine W.cond_f rfl ?_ | refine W.block ?_ | refine W.skip ?_ | refine W.exit ?_ | refine W.ret ?_ | refine Post.block_exit ?_ | refine Post.block_other rfl ?_ | refine Post.then_exit ?_ | refine Post.then_ret ?_ | refine Post.block_ret ?_ | refine Post.block_normal ?_ | refine WL.lenS (tyS rfl) rfl rfl ?_ | refine WL.lenStr und9 rfl rfl ?_ | refine WL.fieldAddr (tyF rfl) rfl rfl ?_ | refine WL.not rfl rfl ?_ | refine WL.pick_t rfl rfl rfl ?_ | refine WL.pick_f rfl rfl rfl ?_ | refine WL.want rfl rfl ?_ | refine WL.skip rfl rfl rfl rfl ?_ | refine WL.extract rfl rfl rfl ?_)
  refine WL.gtr rfl rfl rfl (fun hg => ?_) (fun ho16 => ?_)
  · repeat (first | refine WL.move rfl rfl ?_ | refine WL.assign rfl rfl ?_ | refine W.seq ?_ | refine W.region ?_ | refine WL.nil ?_ | refine Post.next ?_ | refine Post.tail ?_ | refine W.cond_t rfl ?_ | refine W.cond_f rfl ?_ | refine W.block ?_ | refine W.skip ?_ | refine W.exit ?_ | refine W.ret ?_ | refine Post.block_exit ?_ | refine Post.block_other rfl ?_ | refine Post.then_exit ?_ | refine Post.then_ret ?_ | refine Post.block_ret ?_ | refine Post.block_normal ?_ | refine WL.lenS (tyS rfl) rfl rfl ?_ | refine WL.lenStr und9 rfl rfl ?_ | refine WL.fieldAddr (tyF rfl) rfl rfl ?_ | refine WL.not rfl rfl ?_ | refine WL.pick_t rfl rfl rfl ?_ | refine WL.pick_f rfl rfl rfl ?_ | refine WL.want rfl rfl ?_ | refine WL.skip rfl rfl rfl rfl ?_ | refine WL.extract rfl rfl rfl ?_)
    exact Post.ret1 rfl rfl ⟨rfl, Up.refl _⟩
  repeat (first | refine WL.move rfl rfl ?_ | refine WL.assign rfl rfl ?_ | refine W.seq ?_ | refine W.region ?_ | refine WL.nil ?_ | refine Post.next ?_ | refine Post.tail ?_ | refine W.cond_t rfl ?_ | refine W.cond_f rfl ?_ | refine W.block ?_ | refine W.skip ?_ | refine W.exit ?_ | refine W.ret ?_ | refine Post.block_exit ?_ | refine Post.block_other rfl ?_ | refine Post.then_exit ?_ | refine Post.then_ret ?_ | refine Post.block_ret ?_ | refine Post.block_normal ?_ | refine WL.lenS (tyS rfl) rfl rfl ?_ | refine WL.lenStr und9 rfl rfl ?_ | refine WL.fieldAddr (tyF rfl) rfl rfl ?_ | refine WL.not rfl rfl ?_ | refine WL.pick_t rfl rfl rfl ?_ | refine WL.pick_f rfl rfl rfl ?_ | refine WL.want rfl rfl ?_ | refine WL.skip rfl rfl rfl rfl ?_ | refine WL.extract rfl rfl rfl ?_)
  refine WL.gtr rfl rfl rfl (fun hg => ?_) (fun hyl16 => ?_)
  · repeat (first | refine WL.move rfl rfl ?_ | refine WL.assign rfl rfl ?_ | refine W.seq ?_ | refine W.region ?_ | refine WL.nil ?_ | refine Post.next ?_ | refine Post.tail ?_ | refine W.cond_t rfl ?_ | refine W.cond_f rfl ?_ | refine W.block ?_ | refine W.skip ?_ | refine W.exit ?_ | refine W.ret ?_ | refine Post.block_exit ?_ | refine Post.block_other rfl ?_ | refine Post.then_exit ?_ | refine Post.then_ret ?_ | refine Post.block_ret ?_ | refine Post.block_normal ?_ | refine WL.lenS (tyS rfl) rfl rfl ?_ | refine WL.lenStr und9 rfl rfl ?_ | refine WL.fieldAddr (tyF rfl) rfl rfl ?_ | refine WL.not rfl rfl ?_ | refine WL.pick_t rfl rfl rfl ?_ | refine WL.pick_f rfl rfl rfl ?_ | refine WL.want rfl rfl ?_ | refine WL.skip rfl rfl rfl rfl ?_ | refine WL.extract rfl rfl rfl ?_)
    exact Post.ret1 rfl rfl ⟨rfl, Up.refl _⟩
  repeat (first | refine WL.move rfl rfl ?_ | refine WL.assign rfl rfl ?_ | refine W.seq ?_ | refine W.region ?_ | refine WL.nil ?_ | refine Post.next ?_ | refine Post.tail ?_ | refine W.cond_t rfl ?_ | refine W.cond_f rfl ?_ | refine W.block ?_ | refine W.skip ?_ | refine W.exit ?_ | refine W.ret ?_ | refine Post.block_exit ?_ | refine Post.block_other rfl ?_ | refine Post.then_exit ?_ | refine Post.then_ret ?_ | refine Post.block_ret ?_ | refine Post.block_normal ?_ | refine WL.lenS (tyS rfl) rfl rfl ?_ | refine WL.lenStr und9 rfl rfl ?_ | refine WL.fieldAddr (tyF rfl) rfl rfl ?_ | refine WL.not rfl rfl ?_ | refine WL.pick_t rfl rfl rfl ?_ | refine WL.pick_f rfl rfl rfl ?_ | refine WL.want rfl rfl ?_ | refine WL.skip rfl rfl rfl rfl ?_ | refine WL.extract rfl rfl rfl ?_)
  refine WL.gtr rfl rfl rfl (fun hg => ?_) (fun hn7 => ?_)
  · repeat (first | refine WL.move rfl rfl ?_ | refine WL.assign rfl rfl ?_ | refine W.seq ?_ | refine W.region ?_ | refine WL.nil ?_ | refine Post.next ?_ | refine Post.tail ?_ | refine W.cond_t rfl ?_ | refine W.cond_f rfl ?_ | refine W.block ?_ | refine W.skip ?_ | refine W.exit ?_ | refine W.ret ?_ | refine Post.block_exit ?_ | refine Post.block_other rfl ?_ | refine Post.then_exit ?_ | refine Post.then_ret ?_ | refine Post.block_ret ?_ | refine Post.block_normal ?_ | refine WL.lenS (tyS rfl) rfl rfl ?_ | refine WL.lenStr und9 rfl rfl ?_ | refine WL.fieldAddr (tyF rfl) rfl rfl ?_ | refine WL.not rfl rfl ?_ | refine WL.pick_t rfl rfl rfl ?_ | refine WL.pick_f rfl rfl rfl ?_ | refine WL.want rfl rfl ?_ | refine WL.skip rfl rfl rfl rfl ?_ | refine WL.extract rfl rfl rfl ?_)
    exact Post.ret1 rfl rfl ⟨rfl, Up.refl _⟩
  repeat (first | refine WL.move rfl rfl ?_ | refine WL.assign rfl rfl ?_ | refine W.seq ?_ | refine W.region ?_ | refine WL.nil ?_ | refine Post.next ?_ | refine Post.tail ?_ | refine W.cond_t rfl ?_ | refine W.cond_f rfl ?_ | refine W.block ?_ | refine W.skip ?_ | refine W.exit ?_ | refine W.ret ?_ | refine Post.block_exit ?_ | refine Post.block_other rfl ?_ | refine Post.then_exit ?_ | refine Post.then_ret ?_ | refine Post.block_ret ?_ | refine Post.block_normal ?_ | refine WL.lenS (tyS rfl) rfl rfl ?_ | refine WL.lenStr und9 rfl rfl ?_ | refine WL.fieldAddr (tyF rfl) rfl rfl ?_ | refine WL.not rfl rfl ?_ | refine WL.pick_t rfl rfl rfl ?_ | refine WL.pick_f rfl rfl rfl ?_ | refine WL.want rfl rfl ?_ | refine WL.skip rfl rfl rfl rfl ?_ | refine WL.extract rfl rfl rfl ?_)
  refine WL.call _ (fnT rfl) (args4 rfl rfl rfl rfl) (inDom_c w1 la k lc _ _ ch ys al (by omega) ⟨ca, cc, by rw [natL_len], hce, by rw [natL_len]; exact hccap⟩ ⟨ya, yc, by rw [natL_len], hye, by rw [natL_len]; exact hycap⟩ (by omega) (by omega) hc8 hy16) (by rintro e w' ⟨_, rfl, _⟩; exact ⟨_, rfl⟩) rfl ?_
  rintro v w1 ⟨r, hv, hr, rfl⟩
  cases hv
  refine ⟨trivial, ?_⟩
  cases r
  · repeat (first | refine WL.move rfl rfl ?_ | refine WL.assign rfl rfl ?_ | refine W.seq ?_ | refine W.region ?_ | refine WL.nil ?_ | refine Post.next ?_ | refine Post.tail ?_ | refine W.cond_t rfl ?_ | refine W.cond_f rfl ?_ | refine W.block ?_ | refine W.skip ?_ | refine W.exit ?_ | refine W.ret ?_ | refine Post.block_exit ?_ | refine Post.block_other rfl ?_ | refine Post.then_exit ?_ | refine Post.then_ret ?_ | refine Post.block_ret ?_ | refine Post.block_normal ?_ | refine WL.lenS (tyS rfl) rfl rfl ?_ | refine WL.lenStr und9 rfl rfl ?_ | refine WL.fieldAddr (tyF rfl) rfl rfl ?_ | refine WL.not rfl rfl ?_ | refine WL.pick_t rfl rfl rfl ?_ | refine WL.pick_f rfl rfl rfl ?_ | refine WL.want rfl rfl ?_ | refine WL.skip rfl rfl rfl rfl ?_ | refine WL.extract rfl rfl rfl ?_)
    exact Post.ret1 rfl rfl ⟨rfl, Up.refl _⟩
  obtain ⟨hA, hcy, hck, hyk⟩ := hr rfl
  clear hr
  obtain ⟨alpha, hal⟩ : ∃ a : Nat, 0 < k → al = (a : Int) := ⟨al.toNat, fun h => by have := hA h; omega⟩
  have halp : 0 < k → 1 ≤ alpha ∧ alpha ≤ 512 := fun h => by
    have h1 := hA h
    have h2 := hal h
    omega
  have hck0 : 0 < ys.length → 0 < k := fun h => by
    have := hck 0 (by omega)
    omega
  have hyk' : ∀ i, (h : i < ys.length) → ys[i] < alpha := fun i h => by
    have h1 := hyk i h
    have h2 := hal (hck0 (by omega))
    omega
  repeat (first | refine WL.move rfl rfl ?_ | refine WL.assign rfl rfl ?_ | refine W.seq ?_ | refine W.region ?_ | refine WL.nil ?_ | refine Post.next ?_ | refine Post.tail ?_ | refine W.cond_t rfl ?_ | refine W.cond_f rfl ?_ | refine W.block ?_ | refine W.skip ?_ | refine W.exit ?_ | refine W.ret ?_ | refine Post.block_exit ?_ | refine Post.block_other rfl ?_ | refine Post.then_exit ?_ | refine Post.then_ret ?_ | refine Post.block_ret ?_ | refine Post.block_normal ?_ | refine WL.lenS (tyS rfl) rfl rfl ?_ | refine WL.lenStr und9 rfl rfl ?_ | refine WL.fieldAddr (tyF rfl) rfl rfl ?_ | refine WL.not rfl rfl ?_ | refine WL.pick_t rfl rfl rfl ?_ | refine WL.pick_f rfl rfl rfl ?_ | refine WL.want rfl rfl ?_ | refine WL.skip rfl rfl rfl rfl ?_ | refine WL.extract rfl rfl rfl ?_)
  refine WL.call _ (fnT rfl) (args1 rfl) (cloneL_c w1 _ k f ⟨la, lc, rfl, hlx⟩ (by omega)) (by rintro e w' ⟨_, _, rfl, _⟩; exact ⟨_, rfl⟩) rfl ?_
  rintro v w2 ⟨la2, lc2, hv, hu2, hg2⟩
  cases hv
  refine ⟨trivial, ?_⟩
  repeat (first | refine WL.move rfl rfl ?_ | refine WL.assign rfl rfl ?_ | refine W.seq ?_ | refine W.region ?_ | refine WL.nil ?_ | refine Post.next ?_ | refine Post.tail ?_ | refine W.cond_t rfl ?_ | refine W.cond_f rfl ?_ | refine W.block ?_ | refine W.skip ?_ | refine W.exit ?_ | refine W.ret ?_ | refine Post.block_exit ?_ | refine Post.block_other rfl ?_ | refine Post.then_exit ?_ | refine Post.then_ret ?_ | refine Post.block_ret ?_ | refine Post.block_normal ?_ | refine WL.lenS (tyS rfl) rfl rfl ?_ | refine WL.lenStr und9 rfl rfl ?_ | refine WL.fieldAddr (tyF rfl) rfl rfl ?_ | refine WL.not rfl rfl ?_ | refine WL.pick_t rfl rfl rfl ?_ | refine WL.pick_f rfl rfl rfl ?_ | refine WL.want rfl rfl ?_ | refine WL.skip rfl rfl rfl rfl ?_ | refine WL.extract rfl rfl rfl ?_)
  refine WL.call _ (fnT rfl) (args1 rfl) (cloneB_c w2 _ (natL ch) ⟨ca, cc, by rw [natL_len], hce.up hu2, by rw [natL_len]; exact hccap⟩ (by rw [natL_len]; omega)) (by rintro e w' ⟨_, rfl, _⟩; exact ⟨_, rfl⟩) rfl ?_
  rintro v w3 ⟨cv, hv, hoc, hu3⟩
  have hv := (Ending.returned.inj hv).symm
  subst hv
  refine ⟨trivial, ?_⟩
  repeat (first | refine WL.move rfl rfl ?_ | refine WL.assign rfl rfl ?_ | refine W.seq ?_ | refine W.region ?_ | refine WL.nil ?_ | refine Post.next ?_ | refine Post.tail ?_ | refine W.cond_t rfl ?_ | refine W.cond_f rfl ?_ | refine W.block ?_ | refine W.skip ?_ | refine W.exit ?_ | refine W.ret ?_ | refine Post.block_exit ?_ | refine Post.block_other rfl ?_ | refine Post.then_exit ?_ | refine Post.then_ret ?_ | refine Post.block_ret ?_ | refine Post.block_normal ?_ | refine WL.lenS (tyS rfl) rfl rfl ?_ | refine WL.lenStr und9 rfl rfl ?_ | refine WL.fieldAddr (tyF rfl) rfl rfl ?_ | refine WL.not rfl rfl ?_ | refine WL.pick_t rfl rfl rfl ?_ | refine WL.pick_f rfl rfl rfl ?_ | refine WL.want rfl rfl ?_ | refine WL.skip rfl rfl rfl rfl ?_ | refine WL.extract rfl rfl rfl ?_)
  refine WL.call _ (fnT rfl) (args1 rfl) (cloneB_c w3 _ os ⟨oa, oc, rfl, hoe.up (hu2.trans hu3), hocap⟩ (by omega)) (by rintro e w' ⟨_, rfl, _⟩; exact ⟨_, rfl⟩) rfl ?_
  rintro v w4 ⟨ov, hv, hoo, hu4⟩
  have hv := (Ending.returned.inj hv).symm
  subst hv
  refine ⟨trivial, ?_⟩
  repeat (first | refine WL.move rfl rfl ?_ | refine WL.assign rfl rfl ?_ | refine W.seq ?_ | refine W.region ?_ | refine WL.nil ?_ | refine Post.next ?_ | refine Post.tail ?_ | refine W.cond_t rfl ?_ | refine W.cond_f rfl ?_ | refine W.block ?_ | refine W.skip ?_ | refine W.exit ?_ | refine W.ret ?_ | refine Post.block_exit ?_ | refine Post.block_other rfl ?_ | refine Post.then_exit ?_ | refine Post.then_ret ?_ | refine Post.block_ret ?_ | refine Post.block_normal ?_ | refine WL.lenS (tyS rfl) rfl rfl ?_ | refine WL.lenStr und9 rfl rfl ?_ | refine WL.fieldAddr (tyF rfl) rfl rfl ?_ | refine WL.not rfl rfl ?_ | refine WL.pick_t rfl rfl rfl ?_ | refine WL.pick_f rfl rfl rfl ?_ | refine WL.want rfl rfl ?_ | refine WL.skip rfl rfl rfl rfl ?_ | refine WL.extract rfl rfl rfl ?_)
  refine WL.call _ (fnT rfl) (args1 rfl) (cloneU_c w4 _ (natL ys) ⟨ya, yc, by rw [natL_len], hye.up ((hu2.trans hu3).trans hu4), by rw [natL_len]; exact hycap⟩ (by rw [natL_len]; omega)) (by rintro e w' ⟨_, rfl, _⟩; exact ⟨_, rfl⟩) rfl ?_
  rintro v w5 ⟨yv, hv, hoy, hu5⟩
  have hv := (Ending.returned.inj hv).symm
  subst hv
  refine ⟨trivial, ?_⟩
  have U5 : Up w1 w5 := ((hu2.trans hu3).trans hu4).trans hu5
  have z2 := hu2.size
  have z3 := hu3.size
  have z4 := hu4.size
  have z5 := hu5.size
  obtain ⟨gL, hgL⟩ : ∃ gL, 0 < k → la2 = some ⟨gL, 0, none⟩ ∧ Row w5 gL (lenC k f) 29 := by
    by_cases h0 : 0 < k
    · obtain ⟨gL, h1, _, h3⟩ := hg2 h0
      exact ⟨gL, fun _ => ⟨h1, h3.up ((hu3.trans hu4).trans hu5)⟩⟩
    · exact ⟨0, fun h => absurd h h0⟩
  have hoc5 := ownsRow_up hoc (hu4.trans hu5)
  have hoo5 := ownsRow_up hoo hu5
  obtain ⟨ca2, cc2, hcv, hci, _⟩ := IntsV_own hoc5
  rw [natL_len] at hcv
  subst hcv
  obtain ⟨ya2, yc2, hyv, hyi, hyc2⟩ := IntsV_own hoy
  rw [natL_len] at hyv hyc2
  subst hyv
  obtain ⟨cb, co, hcb⟩ := addr_of hci
  obtain ⟨yb, yo, hyb⟩ := addr_of hyi
  have hok : Src.Ok ⟨la2, gL, 0, lc2, ca2, cb, co, cc2, ya2, yb, yo, yc2, k, alpha, f, ch, ys⟩ := ⟨fun h => (hgL h).1, hcb, hyb, hyc2, by simp only; omega, halp, hf8, by simp only; omega, by simp only; omega, hck, hyk', hcy⟩
  have hAtO : ∀ w', (0 < k → Row w' gL (lenC k f) 29) → Ints .u8 w' ca2 (natL ch) → Ints .u16 w' ya2 (natL ys) → Src.At ⟨la2, gL, 0, lc2, ca2, cb, co, cc2, ya2, yb, yo, yc2, k, alpha, f, ch, ys⟩ w' := fun w' h1 h2 h3 =>
    ⟨fun t u ht hu => by simp only; rw [Nat.zero_add]; exact (h1 (by simp only at ht; omega)).cell (lenC_at ht hu), cells_of h2 hcb, cells_of h3 hyb⟩
  have hAt5 := hAtO w5 (fun h => (hgL h).2) hci hyi
  obtain ⟨S0, hS⟩ : ∃ S0 : Src, S0 = (⟨la2, gL, 0, lc2, ca2, cb, co, cc2, ya2, yb, yo, yc2, k, alpha, f, ch, ys⟩ : Src) := ⟨_, rfl⟩
  have hSf : S0.f = f := by rw [hS]
  have hSa : S0.alpha = alpha := by rw [hS]
  have hSk : S0.k = k := by rw [hS]
  have hH0 : tot (S0.codsOps 0) = 18 + tot (choOps (iotaL 6) ch) := by
    rw [hS]
    simp [Src.codsOps, Src.headOps, tot]
    omega
  have hyT := symT_le hf8 ch ys
  repeat (first | refine WL.move rfl rfl ?_ | refine WL.assign rfl rfl ?_ | refine W.seq ?_ | refine W.region ?_ | refine WL.nil ?_ | refine Post.next ?_ | refine Post.tail ?_ | refine W.cond_t rfl ?_ | refine W.cond_f rfl ?_ | refine W.block ?_ | refine W.skip ?_ | refine W.exit ?_ | refine W.ret ?_ | refine Post.block_exit ?_ | refine Post.block_other rfl ?_ | refine Post.then_exit ?_ | refine Post.then_ret ?_ | refine Post.block_ret ?_ | refine Post.block_normal ?_ | refine WL.lenS (tyS rfl) rfl rfl ?_ | refine WL.lenStr und9 rfl rfl ?_ | refine WL.fieldAddr (tyF rfl) rfl rfl ?_ | refine WL.not rfl rfl ?_ | refine WL.pick_t rfl rfl rfl ?_ | refine WL.pick_f rfl rfl rfl ?_ | refine WL.want rfl rfl ?_ | refine WL.skip rfl rfl rfl rfl ?_ | refine WL.extract rfl rfl rfl ?_ | refine WL.addI rfl rfl (by omega) rfl ?_ | refine WL.subI rfl rfl (by omega) rfl ?_ | refine WL.indexS (tyS rfl) rfl rfl (by omega) rfl ?_ | refine WL.indexA (tyR rfl) rfl rfl (by omega) rfl ?_)
  refine WL.alloc zero46 rfl ?_
  intro w6 hg6 hz6 hr6
  refine ⟨trivial, ?_⟩
  have hr6' : Row w6 w5.heap.size (bytesC (List.replicate 6 0)) 46 := by unfold bytesC; rw [List.map_replicate]; exact hr6
  have hu6 : Up w5 w6 := Up.grown hg6
  generalize hgd : w5.heap.size = g at *
  repeat (first | refine WL.move rfl rfl ?_ | refine WL.assign rfl rfl ?_ | refine W.seq ?_ | refine W.region ?_ | refine WL.nil ?_ | refine Post.next ?_ | refine Post.tail ?_ | refine W.cond_t rfl ?_ | refine W.cond_f rfl ?_ | refine W.block ?_ | refine W.skip ?_ | refine W.exit ?_ | refine W.ret ?_ | refine Post.block_exit ?_ | refine Post.block_other rfl ?_ | refine Post.then_exit ?_ | refine Post.then_ret ?_ | refine Post.block_ret ?_ | refine Post.block_normal ?_ | refine WL.lenS (tyS rfl) rfl rfl ?_ | refine WL.lenStr und9 rfl rfl ?_ | refine WL.fieldAddr (tyF rfl) rfl rfl ?_ | refine WL.not rfl rfl ?_ | refine WL.pick_t rfl rfl rfl ?_ | refine WL.pick_f rfl rfl rfl ?_ | refine WL.want rfl rfl ?_ | refine WL.skip rfl rfl rfl rfl ?_ | refine WL.extract rfl rfl rfl ?_ | refine WL.addI rfl rfl (by omega) rfl ?_ | refine WL.subI rfl rfl (by omega) rfl ?_ | refine WL.indexS (tyS rfl) rfl rfl (by omega) rfl ?_ | refine WL.indexA (tyR rfl) rfl rfl (by omega) rfl ?_)
  refine W.loop2 (fun (i : Nat) (_ : List Int) => [(0, .slice la2 k lc2), (1, .slice ca2 ch.length cc2), (2, .int .i64 bits), (3, ov), (4, .int .u64 (acc : Int)), (5, .int .u64 (n : Int)), (6, .slice ya2 ys.length yc2), (7, .int .i64 al), (17, .int .i64 k), (18, .int .i64 18), (19, .pointer (some ⟨g, 0, none⟩)), (20, .int .i64 i)])
    (fun i M wx => i ≤ 6 ∧ M.length = 6 ∧ M = iotaL i ++ List.replicate (6 - i) 0 ∧ Row wx g (bytesC M) 46 ∧ Up w5 wx) (fun i _ => 6 - i) 0 (List.replicate 6 0) ⟨rfl, rfl, rfl, rfl, rfl, rfl, rfl, rfl, rfl, rfl, rfl, rfl, trivial⟩
    ⟨by omega, rfl, rfl, hr6', hu6⟩ ?_
  rintro i M wx ⟨hi, hM, hMe, hrx, hux⟩
  repeat (first | refine WL.move rfl rfl ?_ | refine WL.assign rfl rfl ?_ | refine W.seq ?_ | refine W.region ?_ | refine WL.nil ?_ | refine Post.next ?_ | refine Post.tail ?_ | refine W.cond_t rfl ?_ | refine W.cond_f rfl ?_ | refine W.block ?_ | refine W.skip ?_ | refine W.exit ?_ | refine W.ret ?_ | refine Post.block_exit ?_ | refine Post.block_other rfl ?_ | refine Post.then_exit ?_ | refine Post.then_ret ?_ | refine Post.block_ret ?_ | refine Post.block_normal ?_ | refine WL.lenS (tyS rfl) rfl rfl ?_ | refine WL.lenStr und9 rfl rfl ?_ | refine WL.fieldAddr (tyF rfl) rfl rfl ?_ | refine WL.not rfl rfl ?_ | refine WL.pick_t rfl rfl rfl ?_ | refine WL.pick_f rfl rfl rfl ?_ | refine WL.want rfl rfl ?_ | refine WL.skip rfl rfl rfl rfl ?_ | refine WL.extract rfl rfl rfl ?_ | refine WL.addI rfl rfl (by omega) rfl ?_ | refine WL.subI rfl rfl (by omega) rfl ?_ | refine WL.indexS (tyS rfl) rfl rfl (by omega) rfl ?_ | refine WL.indexA (tyR rfl) rfl rfl (by omega) rfl ?_)
  refine WL.lss rfl rfl rfl (fun hlt => ?_) (fun hge => ?_)
  · repeat (first | refine WL.move rfl rfl ?_ | refine WL.assign rfl rfl ?_ | refine W.seq ?_ | refine W.region ?_ | refine WL.nil ?_ | refine Post.next ?_ | refine Post.tail ?_ | refine W.cond_t rfl ?_ | refine W.cond_f rfl ?_ | refine W.block ?_ | refine W.skip ?_ | refine W.exit ?_ | refine W.ret ?_ | refine Post.block_exit ?_ | refine Post.block_other rfl ?_ | refine Post.then_exit ?_ | refine Post.then_ret ?_ | refine Post.block_ret ?_ | refine Post.block_normal ?_ | refine WL.lenS (tyS rfl) rfl rfl ?_ | refine WL.lenStr und9 rfl rfl ?_ | refine WL.fieldAddr (tyF rfl) rfl rfl ?_ | refine WL.not rfl rfl ?_ | refine WL.pick_t rfl rfl rfl ?_ | refine WL.pick_f rfl rfl rfl ?_ | refine WL.want rfl rfl ?_ | refine WL.skip rfl rfl rfl rfl ?_ | refine WL.extract rfl rfl rfl ?_ | refine WL.addI rfl rfl (by omega) rfl ?_ | refine WL.subI rfl rfl (by omega) rfl ?_ | refine WL.indexS (tyS rfl) rfl rfl (by omega) rfl ?_ | refine WL.indexA (tyR rfl) rfl rfl (by omega) rfl ?_)
    refine WL.conv' (kd' := .u8) (tyI rfl) (tyI rfl) rfl (u8w (by omega) (by omega)) rfl ?_
    repeat (first | refine WL.move rfl rfl ?_ | refine WL.assign rfl rfl ?_ | refine W.seq ?_ | refine W.region ?_ | refine WL.nil ?_ | refine Post.next ?_ | refine Post.tail ?_ | refine W.cond_t rfl ?_ | refine W.cond_f rfl ?_ | refine W.block ?_ | refine W.skip ?_ | refine W.exit ?_ | refine W.ret ?_ | refine Post.block_exit ?_ | refine Post.block_other rfl ?_ | refine Post.then_exit ?_ | refine Post.then_ret ?_ | refine Post.block_ret ?_ | refine Post.block_normal ?_ | refine WL.lenS (tyS rfl) rfl rfl ?_ | refine WL.lenStr und9 rfl rfl ?_ | refine WL.fieldAddr (tyF rfl) rfl rfl ?_ | refine WL.not rfl rfl ?_ | refine WL.pick_t rfl rfl rfl ?_ | refine WL.pick_f rfl rfl rfl ?_ | refine WL.want rfl rfl ?_ | refine WL.skip rfl rfl rfl rfl ?_ | refine WL.extract rfl rfl rfl ?_ | refine WL.addI rfl rfl (by omega) rfl ?_ | refine WL.subI rfl rfl (by omega) rfl ?_ | refine WL.indexS (tyS rfl) rfl rfl (by omega) rfl ?_ | refine WL.indexA (tyR rfl) rfl rfl (by omega) rfl ?_)
    refine WL.store (o' := i) (tyP rfl) rfl rfl rfl hrx (by first | omega | (simp; done) | (simp; omega)) (by simp only [bytesC, List.length_map]; omega) ?_
    intro w7 hg7 hz7 hr7
    refine ⟨trivial, ?_⟩
    rw [spl_set _ _ _ (by omega)] at hr7
    repeat (first | refine WL.move rfl rfl ?_ | refine WL.assign rfl rfl ?_ | refine W.seq ?_ | refine W.region ?_ | refine WL.nil ?_ | refine Post.next ?_ | refine Post.tail ?_ | refine W.cond_t rfl ?_ | refine W.cond_f rfl ?_ | refine W.block ?_ | refine W.skip ?_ | refine W.exit ?_ | refine W.ret ?_ | refine Post.block_exit ?_ | refine Post.block_other rfl ?_ | refine Post.then_exit ?_ | refine Post.then_ret ?_ | refine Post.block_ret ?_ | refine Post.block_normal ?_ | refine WL.lenS (tyS rfl) rfl rfl ?_ | refine WL.lenStr und9 rfl rfl ?_ | refine WL.fieldAddr (tyF rfl) rfl rfl ?_ | refine WL.not rfl rfl ?_ | refine WL.pick_t rfl rfl rfl ?_ | refine WL.pick_f rfl rfl rfl ?_ | refine WL.want rfl rfl ?_ | refine WL.skip rfl rfl rfl rfl ?_ | refine WL.extract rfl rfl rfl ?_ | refine WL.addI rfl rfl (by omega) rfl ?_ | refine WL.subI rfl rfl (by omega) rfl ?_ | refine WL.indexS (tyS rfl) rfl rfl (by omega) rfl ?_ | refine WL.indexA (tyR rfl) rfl rfl (by omega) rfl ?_)
    refine Post.round2 (i + 1) (M.set i (i : Int)) ⟨rfl, rfl, rfl, rfl, rfl, rfl, rfl, rfl, rfl, rfl, rfl, (by first | rfl | (simp [look]; done) | (simp [look]; omega)), trivial⟩ ⟨by omega, by simp [hM], ?_, hr7, hux.step hg7 (by intro q hq; cases hq; omega)⟩ (by omega)
    rw [hMe]
    have hlen : (iotaL i).length = i := by simp [iotaL]
    have e1 : 6 - i = (6 - (i + 1)) + 1 := by omega
    rw [e1, List.replicate_succ, List.set_append_right _ _ (by omega), hlen, Nat.sub_self]
    simp [iotaL, List.range_succ]
  have hi6 : i = 6 := by omega
  subst hi6
  have hMe' : M = iotaL 6 := by rw [hMe]; simp
  subst hMe'
  clear hMe hi hge
  repeat (first | refine WL.move rfl rfl ?_ | refine WL.assign rfl rfl ?_ | refine W.seq ?_ | refine W.region ?_ | refine WL.nil ?_ | refine Post.next ?_ | refine Post.tail ?_ | refine W.cond_t rfl ?_ | refine W.cond_f rfl ?_ | refine W.block ?_ | refine W.skip ?_ | refine W.exit ?_ | refine W.ret ?_ | refine Post.block_exit ?_ | refine Post.block_other rfl ?_ | refine Post.then_exit ?_ | refine Post.then_ret ?_ | refine Post.block_ret ?_ | refine Post.block_normal ?_ | refine WL.lenS (tyS rfl) rfl rfl ?_ | refine WL.lenStr und9 rfl rfl ?_ | refine WL.fieldAddr (tyF rfl) rfl rfl ?_ | refine WL.not rfl rfl ?_ | refine WL.pick_t rfl rfl rfl ?_ | refine WL.pick_f rfl rfl rfl ?_ | refine WL.want rfl rfl ?_ | refine WL.skip rfl rfl rfl rfl ?_ | refine WL.extract rfl rfl rfl ?_ | refine WL.addI rfl rfl (by omega) rfl ?_ | refine WL.subI rfl rfl (by omega) rfl ?_ | refine WL.indexS (tyS rfl) rfl rfl (by omega) rfl ?_ | refine WL.indexA (tyR rfl) rfl rfl (by omega) rfl ?_)
  -- the groups
  refine W.loop3 (fun (j z : Nat) (_ : List Int) => [(0, .slice la2 k lc2), (1, .slice ca2 ch.length cc2), (2, .int .i64 bits), (3, ov), (4, .int .u64 (acc : Int)), (5, .int .u64 (n : Int)), (6, .slice ya2 ys.length yc2), (7, .int .i64 al), (17, .int .i64 k), (18, .int .i64 z), (19, .pointer (some ⟨g, 0, none⟩)), (21, .int .i64 j)])
    (fun j z M wx => j ≤ ch.length ∧ M.length = 6 ∧ (∀ t : Int, 0 ≤ t → t < 6 → t ∈ M) ∧ z + tot (choOps M (ch.drop j)) = 18 + tot (choOps (iotaL 6) ch) + symT f ch ys (min (j * 50) ys.length) ∧ z ≤ 18 + 13000 * j ∧ Row wx g (bytesC M) 46 ∧ Up w5 wx) (fun j _ _ => ch.length - j) 0 18 (iotaL 6) ⟨rfl, rfl, rfl, rfl, rfl, rfl, rfl, rfl, rfl, rfl, rfl, rfl, trivial⟩
    ⟨by omega, rfl, fun t h1 h2 => iota_mem.2 ⟨h1, h2⟩, by rw [Nat.zero_mul, Nat.zero_min]; rfl, by omega, hrx, hux⟩ ?_
  clear hrx hux hM
  rintro j z M wx ⟨hj, hM, hmem, hz, hzb, hrx, hux⟩
  repeat (first | refine WL.move rfl rfl ?_ | refine WL.assign rfl rfl ?_ | refine W.seq ?_ | refine W.region ?_ | refine WL.nil ?_ | refine Post.next ?_ | refine Post.tail ?_ | refine W.cond_t rfl ?_ | refine W.cond_f rfl ?_ | refine W.block ?_ | refine W.skip ?_ | refine W.exit ?_ | refine W.ret ?_ | refine Post.block_exit ?_ | refine Post.block_other rfl ?_ | refine Post.then_exit ?_ | refine Post.then_ret ?_ | refine Post.block_ret ?_ | refine Post.block_normal ?_ | refine WL.lenS (tyS rfl) rfl rfl ?_ | refine WL.lenStr und9 rfl rfl ?_ | refine WL.fieldAddr (tyF rfl) rfl rfl ?_ | refine WL.not rfl rfl ?_ | refine WL.pick_t rfl rfl rfl ?_ | refine WL.pick_f rfl rfl rfl ?_ | refine WL.want rfl rfl ?_ | refine WL.skip rfl rfl rfl rfl ?_ | refine WL.extract rfl rfl rfl ?_ | refine WL.addI rfl rfl (by omega) rfl ?_ | refine WL.subI rfl rfl (by omega) rfl ?_ | refine WL.indexS (tyS rfl) rfl rfl (by omega) rfl ?_ | refine WL.indexA (tyR rfl) rfl rfl (by omega) rfl ?_)
  refine WL.lss rfl rfl rfl (fun hlt => ?_) (fun hge => ?_)
  · have hj' : j < ch.length := by omega
    have hjn : j * 50 < ys.length := by omega
    have hk0 := hck0 (by omega)
    obtain ⟨ha1, ha2⟩ := halp hk0
    have hal' := hal hk0
    subst hal'
    obtain ⟨hla', hrowL⟩ := hgL hk0
    subst hla'
    have hyb' := hyb (by omega)
    subst hyb'
    have hcb' := hcb (by omega)
    subst hcb'
    have hcc : ∀ {wy : World}, Up w5 wy → wy.cell? ⟨cb, co + j, none⟩ = some (.int .u8 (ch[j] : Int)) := fun h => (hAt5.up h).c j hj'
    have hcj := hck j hj'
    have hgt : ch.getD j 0 = ch[j] := by rw [List.getD_eq_getElem?_getD, List.getElem?_eq_getElem hj']; rfl
    have hdrop : ch.drop j = ch[j] :: ch.drop (j + 1) := List.drop_eq_getElem_cons hj'
    have htm := hmem (ch[j] : Int) (by omega) (by omega)
    rw [hdrop, choOps, tot_cons, Nat.min_eq_left (by omega)] at hz
    generalize htd : ch[j] = tc at *
    repeat (first | refine WL.move rfl rfl ?_ | refine WL.assign rfl rfl ?_ | refine W.seq ?_ | refine W.region ?_ | refine WL.nil ?_ | refine Post.next ?_ | refine Post.tail ?_ | refine W.cond_t rfl ?_ | refine W.cond_f rfl ?_ | refine W.block ?_ | refine W.skip ?_ | refine W.exit ?_ | refine W.ret ?_ | refine Post.block_exit ?_ | refine Post.block_other rfl ?_ | refine Post.then_exit ?_ | refine Post.then_ret ?_ | refine Post.block_ret ?_ | refine Post.block_normal ?_ | refine WL.lenS (tyS rfl) rfl rfl ?_ | refine WL.lenStr und9 rfl rfl ?_ | refine WL.fieldAddr (tyF rfl) rfl rfl ?_ | refine WL.not rfl rfl ?_ | refine WL.pick_t rfl rfl rfl ?_ | refine WL.pick_f rfl rfl rfl ?_ | refine WL.want rfl rfl ?_ | refine WL.skip rfl rfl rfl rfl ?_ | refine WL.extract rfl rfl rfl ?_ | refine WL.addI rfl rfl (by omega) rfl ?_ | refine WL.subI rfl rfl (by omega) rfl ?_ | refine WL.indexS (tyS rfl) rfl rfl (by omega) rfl ?_ | refine WL.indexA (tyR rfl) rfl rfl (by omega) rfl ?_)
    refine WL.load (o' := co + j) (tyP rfl) rfl (fun _ e => e) (hcc hux) (by first | omega | (simp; done) | (simp; omega)) rfl ?_
    refine WL.conv' (kd' := .i64) (tyI rfl) (tyI rfl) rfl (i64w (by omega) (by omega)) rfl ?_
    repeat (first | refine WL.move rfl rfl ?_ | refine WL.assign rfl rfl ?_ | refine W.region ?_ | refine WL.nil ?_ | refine Post.next ?_ | refine Post.tail ?_ | refine W.cond_t rfl ?_ | refine W.cond_f rfl ?_ | refine W.block ?_ | refine W.skip ?_ | refine W.exit ?_ | refine W.ret ?_ | refine Post.block_exit ?_ | refine Post.block_other rfl ?_ | refine Post.then_exit ?_ | refine Post.then_ret ?_ | refine Post.block_ret ?_ | refine Post.block_normal ?_ | refine WL.lenS (tyS rfl) rfl rfl ?_ | refine WL.lenStr und9 rfl rfl ?_ | refine WL.fieldAddr (tyF rfl) rfl rfl ?_ | refine WL.not rfl rfl ?_ | refine WL.pick_t rfl rfl rfl ?_ | refine WL.pick_f rfl rfl rfl ?_ | refine WL.want rfl rfl ?_ | refine WL.skip rfl rfl rfl rfl ?_ | refine WL.extract rfl rfl rfl ?_ | refine WL.nilCheck rfl rfl ?_ | refine WL.addI rfl rfl (by omega) rfl ?_ | refine WL.subI rfl rfl (by omega) rfl ?_ | refine WL.indexS (tyS rfl) rfl rfl (by omega) rfl ?_ | refine WL.indexA (tyR rfl) rfl rfl (by omega) rfl ?_)
    refine W.seq ?_
    repeat (first | refine WL.move rfl rfl ?_ | refine WL.assign rfl rfl ?_ | refine W.region ?_ | refine WL.nil ?_ | refine Post.next ?_ | refine Post.tail ?_ | refine W.cond_t rfl ?_ | refine W.cond_f rfl ?_ | refine W.block ?_ | refine W.skip ?_ | refine W.exit ?_ | refine W.ret ?_ | refine Post.block_exit ?_ | refine Post.block_other rfl ?_ | refine Post.then_exit ?_ | refine Post.then_ret ?_ | refine Post.block_ret ?_ | refine Post.block_normal ?_ | refine WL.lenS (tyS rfl) rfl rfl ?_ | refine WL.lenStr und9 rfl rfl ?_ | refine WL.fieldAddr (tyF rfl) rfl rfl ?_ | refine WL.not rfl rfl ?_ | refine WL.pick_t rfl rfl rfl ?_ | refine WL.pick_f rfl rfl rfl ?_ | refine WL.want rfl rfl ?_ | refine WL.skip rfl rfl rfl rfl ?_ | refine WL.extract rfl rfl rfl ?_ | refine WL.nilCheck rfl rfl ?_ | refine WL.addI rfl rfl (by omega) rfl ?_ | refine WL.subI rfl rfl (by omega) rfl ?_ | refine WL.indexS (tyS rfl) rfl rfl (by omega) rfl ?_ | refine WL.indexA (tyR rfl) rfl rfl (by omega) rfl ?_)
    refine WL.mulI rfl rfl (by omega) rfl ?_
    repeat (first | refine WL.move rfl rfl ?_ | refine WL.assign rfl rfl ?_ | refine W.region ?_ | refine WL.nil ?_ | refine Post.next ?_ | refine Post.tail ?_ | refine W.cond_t rfl ?_ | refine W.cond_f rfl ?_ | refine W.block ?_ | refine W.skip ?_ | refine W.exit ?_ | refine W.ret ?_ | refine Post.block_exit ?_ | refine Post.block_other rfl ?_ | refine Post.then_exit ?_ | refine Post.then_ret ?_ | refine Post.block_ret ?_ | refine Post.block_normal ?_ | refine WL.lenS (tyS rfl) rfl rfl ?_ | refine WL.lenStr und9 rfl rfl ?_ | refine WL.fieldAddr (tyF rfl) rfl rfl ?_ | refine WL.not rfl rfl ?_ | refine WL.pick_t rfl rfl rfl ?_ | refine WL.pick_f rfl rfl rfl ?_ | refine WL.want rfl rfl ?_ | refine WL.skip rfl rfl rfl rfl ?_ | refine WL.extract rfl rfl rfl ?_ | refine WL.nilCheck rfl rfl ?_ | refine WL.addI rfl rfl (by omega) rfl ?_ | refine WL.subI rfl rfl (by omega) rfl ?_ | refine WL.indexS (tyS rfl) rfl rfl (by omega) rfl ?_ | refine WL.indexA (tyR rfl) rfl rfl (by omega) rfl ?_)
    refine W.seq_joinE (fun (e : Nat) => [(0, .slice (some ⟨gL, 0, none⟩) k lc2), (1, .slice (some ⟨cb, co, none⟩) ch.length cc2), (2, .int .i64 bits), (3, ov), (4, .int .u64 (acc : Int)), (5, .int .u64 (n : Int)), (6, .slice (some ⟨yb, yo, none⟩) ys.length yc2), (7, .int .i64 (alpha : Int)), (17, .int .i64 k), (18, .int .i64 z), (19, .pointer (some ⟨g, 0, none⟩)), (21, .int .i64 j), (22, .int .i64 tc), (23, .int .i64 e)])
      (fun e w' => e = min ((j + 1) * 50) ys.length ∧ w' = wx) ?_ ?_
    · repeat (first | refine WL.move rfl rfl ?_ | refine WL.assign rfl rfl ?_ | refine W.seq ?_ | refine W.region ?_ | refine WL.nil ?_ | refine Post.next ?_ | refine Post.tail ?_ | refine W.cond_t rfl ?_ | refine W.cond_f rfl ?_ | refine W.block ?_ | refine W.skip ?_ | refine W.exit ?_ | refine W.ret ?_ | refine Post.block_exit ?_ | refine Post.block_other rfl ?_ | refine Post.then_exit ?_ | refine Post.then_ret ?_ | refine Post.block_ret ?_ | refine Post.block_normal ?_ | refine WL.lenS (tyS rfl) rfl rfl ?_ | refine WL.lenStr und9 rfl rfl ?_ | refine WL.fieldAddr (tyF rfl) rfl rfl ?_ | refine WL.not rfl rfl ?_ | refine WL.pick_t rfl rfl rfl ?_ | refine WL.pick_f rfl rfl rfl ?_ | refine WL.want rfl rfl ?_ | refine WL.skip rfl rfl rfl rfl ?_ | refine WL.extract rfl rfl rfl ?_ | refine WL.addI rfl rfl (by omega) rfl ?_ | refine WL.subI rfl rfl (by omega) rfl ?_ | refine WL.indexS (tyS rfl) rfl rfl (by omega) rfl ?_ | refine WL.indexA (tyR rfl) rfl rfl (by omega) rfl ?_)
      refine WL.gtr rfl rfl rfl (fun h1 => ?_) (fun h1 => ?_)
      · repeat (first | refine WL.move rfl rfl ?_ | refine WL.assign rfl rfl ?_ | refine W.seq ?_ | refine W.region ?_ | refine WL.nil ?_ | refine Post.next ?_ | refine Post.tail ?_ | refine W.cond_t rfl ?_ | refine W.cond_f rfl ?_ | refine W.block ?_ | refine W.skip ?_ | refine W.exit ?_ | refine W.ret ?_ | refine Post.block_exit ?_ | refine Post.block_other rfl ?_ | refine Post.then_exit ?_ | refine Post.then_ret ?_ | refine Post.block_ret ?_ | refine Post.block_normal ?_ | refine WL.lenS (tyS rfl) rfl rfl ?_ | refine WL.lenStr und9 rfl rfl ?_ | refine WL.fieldAddr (tyF rfl) rfl rfl ?_ | refine WL.not rfl rfl ?_ | refine WL.pick_t rfl rfl rfl ?_ | refine WL.pick_f rfl rfl rfl ?_ | refine WL.want rfl rfl ?_ | refine WL.skip rfl rfl rfl rfl ?_ | refine WL.extract rfl rfl rfl ?_ | refine WL.addI rfl rfl (by omega) rfl ?_ | refine WL.subI rfl rfl (by omega) rfl ?_ | refine WL.indexS (tyS rfl) rfl rfl (by omega) rfl ?_ | refine WL.indexA (tyR rfl) rfl rfl (by omega) rfl ?_)
        exact Post.joinE ys.length ⟨rfl, rfl, rfl, rfl, rfl, rfl, rfl, rfl, rfl, rfl, rfl, rfl, rfl, rfl, trivial⟩ ⟨by omega, rfl⟩
      · repeat (first | refine WL.move rfl rfl ?_ | refine WL.assign rfl rfl ?_ | refine W.seq ?_ | refine W.region ?_ | refine WL.nil ?_ | refine Post.next ?_ | refine Post.tail ?_ | refine W.cond_t rfl ?_ | refine W.cond_f rfl ?_ | refine W.block ?_ | refine W.skip ?_ | refine W.exit ?_ | refine W.ret ?_ | refine Post.block_exit ?_ | refine Post.block_other rfl ?_ | refine Post.then_exit ?_ | refine Post.then_ret ?_ | refine Post.block_ret ?_ | refine Post.block_normal ?_ | refine WL.lenS (tyS rfl) rfl rfl ?_ | refine WL.lenStr und9 rfl rfl ?_ | refine WL.fieldAddr (tyF rfl) rfl rfl ?_ | refine WL.not rfl rfl ?_ | refine WL.pick_t rfl rfl rfl ?_ | refine WL.pick_f rfl rfl rfl ?_ | refine WL.want rfl rfl ?_ | refine WL.skip rfl rfl rfl rfl ?_ | refine WL.extract rfl rfl rfl ?_ | refine WL.addI rfl rfl (by omega) rfl ?_ | refine WL.subI rfl rfl (by omega) rfl ?_ | refine WL.indexS (tyS rfl) rfl rfl (by omega) rfl ?_ | refine WL.indexA (tyR rfl) rfl rfl (by omega) rfl ?_)
        exact Post.joinE ((j + 1) * 50) ⟨rfl, rfl, rfl, rfl, rfl, rfl, rfl, rfl, rfl, rfl, rfl, rfl, rfl, (by first | rfl | (simp [look]; done) | (simp [look]; omega)), trivial⟩ ⟨by omega, rfl⟩
    rintro e wx' ⟨he, rfl⟩
    repeat (first | refine WL.move rfl rfl ?_ | refine WL.assign rfl rfl ?_ | refine W.seq ?_ | refine W.region ?_ | refine WL.nil ?_ | refine Post.next ?_ | refine Post.tail ?_ | refine W.cond_t rfl ?_ | refine W.cond_f rfl ?_ | refine W.block ?_ | refine W.skip ?_ | refine W.exit ?_ | refine W.ret ?_ | refine Post.block_exit ?_ | refine Post.block_other rfl ?_ | refine Post.then_exit ?_ | refine Post.then_ret ?_ | refine Post.block_ret ?_ | refine Post.block_normal ?_ | refine WL.lenS (tyS rfl) rfl rfl ?_ | refine WL.lenStr und9 rfl rfl ?_ | refine WL.fieldAddr (tyF rfl) rfl rfl ?_ | refine WL.not rfl rfl ?_ | refine WL.pick_t rfl rfl rfl ?_ | refine WL.pick_f rfl rfl rfl ?_ | refine WL.want rfl rfl ?_ | refine WL.skip rfl rfl rfl rfl ?_ | refine WL.extract rfl rfl rfl ?_ | refine WL.addI rfl rfl (by omega) rfl ?_ | refine WL.subI rfl rfl (by omega) rfl ?_ | refine WL.indexS (tyS rfl) rfl rfl (by omega) rfl ?_ | refine WL.indexA (tyR rfl) rfl rfl (by omega) rfl ?_)
    refine WL.mulI rfl rfl (by omega) rfl ?_
    repeat (first | refine WL.move rfl rfl ?_ | refine WL.assign rfl rfl ?_ | refine W.seq ?_ | refine W.region ?_ | refine WL.nil ?_ | refine Post.next ?_ | refine Post.tail ?_ | refine W.cond_t rfl ?_ | refine W.cond_f rfl ?_ | refine W.block ?_ | refine W.skip ?_ | refine W.exit ?_ | refine W.ret ?_ | refine Post.block_exit ?_ | refine Post.block_other rfl ?_ | refine Post.then_exit ?_ | refine Post.then_ret ?_ | refine Post.block_ret ?_ | refine Post.block_normal ?_ | refine WL.lenS (tyS rfl) rfl rfl ?_ | refine WL.lenStr und9 rfl rfl ?_ | refine WL.fieldAddr (tyF rfl) rfl rfl ?_ | refine WL.not rfl rfl ?_ | refine WL.pick_t rfl rfl rfl ?_ | refine WL.pick_f rfl rfl rfl ?_ | refine WL.want rfl rfl ?_ | refine WL.skip rfl rfl rfl rfl ?_ | refine WL.extract rfl rfl rfl ?_ | refine WL.addI rfl rfl (by omega) rfl ?_ | refine WL.subI rfl rfl (by omega) rfl ?_ | refine WL.indexS (tyS rfl) rfl rfl (by omega) rfl ?_ | refine WL.indexA (tyR rfl) rfl rfl (by omega) rfl ?_)
    refine W.loop2 (fun (i gb : Nat) => [(0, .slice (some ⟨gL, 0, none⟩) k lc2), (1, .slice (some ⟨cb, co, none⟩) ch.length cc2), (2, .int .i64 bits), (3, ov), (4, .int .u64 (acc : Int)), (5, .int .u64 (n : Int)), (6, .slice (some ⟨yb, yo, none⟩) ys.length yc2), (7, .int .i64 (alpha : Int)), (17, .int .i64 k), (18, .int .i64 z), (19, .pointer (some ⟨g, 0, none⟩)), (21, .int .i64 j), (22, .int .i64 tc), (23, .int .i64 e), (24, .int .i64 gb), (25, .int .i64 i)])
      (fun i gb wy => j * 50 ≤ i ∧ i ≤ e ∧ gb + symT f ch ys (j * 50) = symT f ch ys i ∧ gb ≤ 255 * (i - j * 50) ∧ Up wx' wy) (fun i _ => e - i) (j * 50) 0 ⟨rfl, rfl, rfl, rfl, rfl, rfl, rfl, rfl, rfl, rfl, rfl, rfl, rfl, rfl, rfl, (by first | rfl | (simp [look]; done) | (simp [look]; omega)), trivial⟩
      ⟨Nat.le_refl _, by omega, by omega, by omega, Up.refl _⟩ ?_
    rintro i gb wy ⟨hi0, hie, hgb, hgbb, huy⟩
    repeat (first | refine WL.move rfl rfl ?_ | refine WL.assign rfl rfl ?_ | refine W.seq ?_ | refine W.region ?_ | refine WL.nil ?_ | refine Post.next ?_ | refine Post.tail ?_ | refine W.cond_t rfl ?_ | refine W.cond_f rfl ?_ | refine W.block ?_ | refine W.skip ?_ | refine W.exit ?_ | refine W.ret ?_ | refine Post.block_exit ?_ | refine Post.block_other rfl ?_ | refine Post.then_exit ?_ | refine Post.then_ret ?_ | refine Post.block_ret ?_ | refine Post.block_normal ?_ | refine WL.lenS (tyS rfl) rfl rfl ?_ | refine WL.lenStr und9 rfl rfl ?_ | refine WL.fieldAddr (tyF rfl) rfl rfl ?_ | refine WL.not rfl rfl ?_ | refine WL.pick_t rfl rfl rfl ?_ | refine WL.pick_f rfl rfl rfl ?_ | refine WL.want rfl rfl ?_ | refine WL.skip rfl rfl rfl rfl ?_ | refine WL.extract rfl rfl rfl ?_ | refine WL.addI rfl rfl (by omega) rfl ?_ | refine WL.subI rfl rfl (by omega) rfl ?_ | refine WL.indexS (tyS rfl) rfl rfl (by omega) rfl ?_ | refine WL.indexA (tyR rfl) rfl rfl (by omega) rfl ?_)
    refine WL.lss rfl rfl rfl (fun hlt2 => ?_) (fun hge2 => ?_)
    · have hi' : i < ys.length := by omega
      have hud := huy.trans (Up.drew wy)
      have hyy : wy.drew.cell? ⟨yb, yo + i, none⟩ = some (.int .u16 (ys[i] : Int)) := (hAt5.up (hux.trans hud)).y i hi'
      have hyi' := hyk' i hi'
      have hgy : ys.getD i 0 = ys[i] := by rw [List.getD_eq_getElem?_getD, List.getElem?_eq_getElem hi']; rfl
      have hgq : i / 50 = j := by omega
      have hsT : symT f ch ys (i + 1) = symT f ch ys i + f tc ys[i] := by rw [symT, hgq, hgt, hgy]
      generalize hyd : ys[i] = y at *
      have hlc := (hux.trans hud).cell (hrowL.cell (lenC_at hcj (show y < 512 by omega)))
      have hfy := hf8 tc y
      repeat (first | refine WL.move rfl rfl ?_ | refine WL.assign rfl rfl ?_ | refine W.seq ?_ | refine W.region ?_ | refine WL.nil ?_ | refine Post.next ?_ | refine Post.tail ?_ | refine W.cond_t rfl ?_ | refine W.cond_f rfl ?_ | refine W.block ?_ | refine W.skip ?_ | refine W.exit ?_ | refine W.ret ?_ | refine Post.block_exit ?_ | refine Post.block_other rfl ?_ | refine Post.then_exit ?_ | refine Post.then_ret ?_ | refine Post.block_ret ?_ | refine Post.block_normal ?_ | refine WL.lenS (tyS rfl) rfl rfl ?_ | refine WL.lenStr und9 rfl rfl ?_ | refine WL.fieldAddr (tyF rfl) rfl rfl ?_ | refine WL.not rfl rfl ?_ | refine WL.pick_t rfl rfl rfl ?_ | refine WL.pick_f rfl rfl rfl ?_ | refine WL.want rfl rfl ?_ | refine WL.skip rfl rfl rfl rfl ?_ | refine WL.extract rfl rfl rfl ?_)
      refine W.region_q mixed (by kernel_rfl) ?_
      repeat (first | refine WL.move rfl rfl ?_ | refine WL.assign rfl rfl ?_ | refine W.seq ?_ | refine W.region ?_ | refine WL.nil ?_ | refine Post.next ?_ | refine Post.tail ?_ | refine W.cond_t rfl ?_ | refine W.cond_f rfl ?_ | refine W.block ?_ | refine W.skip ?_ | refine W.exit ?_ | refine W.ret ?_ | refine Post.block_exit ?_ | refine Post.block_other rfl ?_ | refine Post.then_exit ?_ | refine Post.then_ret ?_ | refine Post.block_ret ?_ | refine Post.block_normal ?_ | refine WL.lenS (tyS rfl) rfl rfl ?_ | refine WL.lenStr und9 rfl rfl ?_ | refine WL.fieldAddr (tyF rfl) rfl rfl ?_ | refine WL.not rfl rfl ?_ | refine WL.pick_t rfl rfl rfl ?_ | refine WL.pick_f rfl rfl rfl ?_ | refine WL.want rfl rfl ?_ | refine WL.skip rfl rfl rfl rfl ?_ | refine WL.extract rfl rfl rfl ?_ | refine WL.addI rfl rfl (by omega) rfl ?_ | refine WL.subI rfl rfl (by omega) rfl ?_ | refine WL.indexS (tyS rfl) rfl rfl (by omega) rfl ?_ | refine WL.indexA (tyR rfl) rfl rfl (by omega) rfl ?_)
      refine WL.load (o' := yo + i) (tyP rfl) rfl (fun _ e => e) hyy (by first | omega | (simp; done) | (simp; omega)) rfl ?_
      repeat (first | refine WL.move rfl rfl ?_ | refine WL.assign rfl rfl ?_ | refine W.seq ?_ | refine W.region ?_ | refine WL.nil ?_ | refine Post.next ?_ | refine Post.tail ?_ | refine W.cond_t rfl ?_ | refine W.cond_f rfl ?_ | refine W.block ?_ | refine W.skip ?_ | refine W.exit ?_ | refine W.ret ?_ | refine Post.block_exit ?_ | refine Post.block_other rfl ?_ | refine Post.then_exit ?_ | refine Post.then_ret ?_ | refine Post.block_ret ?_ | refine Post.block_normal ?_ | refine WL.lenS (tyS rfl) rfl rfl ?_ | refine WL.lenStr und9 rfl rfl ?_ | refine WL.fieldAddr (tyF rfl) rfl rfl ?_ | refine WL.not rfl rfl ?_ | refine WL.pick_t rfl rfl rfl ?_ | refine WL.pick_f rfl rfl rfl ?_ | refine WL.want rfl rfl ?_ | refine WL.skip rfl rfl rfl rfl ?_ | refine WL.extract rfl rfl rfl ?_ | refine WL.addI rfl rfl (by omega) rfl ?_ | refine WL.subI rfl rfl (by omega) rfl ?_ | refine WL.indexS (tyS rfl) rfl rfl (by omega) rfl ?_ | refine WL.indexA (tyR rfl) rfl rfl (by omega) rfl ?_)
      refine WL.load (o' := tc * 512 + y) (tyP rfl) rfl (fun _ e => e) hlc (by first | omega | (simp; done) | (simp; omega)) rfl ?_
      refine WL.conv' (kd' := .i64) (tyI rfl) (tyI rfl) rfl (i64w (by omega) (by omega)) rfl ?_
      repeat (first | refine WL.move rfl rfl ?_ | refine WL.assign rfl rfl ?_ | refine W.seq ?_ | refine W.region ?_ | refine WL.nil ?_ | refine Post.next ?_ | refine Post.tail ?_ | refine W.cond_t rfl ?_ | refine W.cond_f rfl ?_ | refine W.block ?_ | refine W.skip ?_ | refine W.exit ?_ | refine W.ret ?_ | refine Post.block_exit ?_ | refine Post.block_other rfl ?_ | refine Post.then_exit ?_ | refine Post.then_ret ?_ | refine Post.block_ret ?_ | refine Post.block_normal ?_ | refine WL.lenS (tyS rfl) rfl rfl ?_ | refine WL.lenStr und9 rfl rfl ?_ | refine WL.fieldAddr (tyF rfl) rfl rfl ?_ | refine WL.not rfl rfl ?_ | refine WL.pick_t rfl rfl rfl ?_ | refine WL.pick_f rfl rfl rfl ?_ | refine WL.want rfl rfl ?_ | refine WL.skip rfl rfl rfl rfl ?_ | refine WL.extract rfl rfl rfl ?_ | refine WL.addI rfl rfl (by omega) rfl ?_ | refine WL.subI rfl rfl (by omega) rfl ?_ | refine WL.indexS (tyS rfl) rfl rfl (by omega) rfl ?_ | refine WL.indexA (tyR rfl) rfl rfl (by omega) rfl ?_)
      exact Post.round2 (i + 1) (gb + f tc y) ⟨rfl, rfl, rfl, rfl, rfl, rfl, rfl, rfl, rfl, rfl, rfl, rfl, rfl, rfl, (by first | rfl | (simp [look]; done) | (simp [look]; omega)), (by first | rfl | (simp [look]; done) | (simp [look]; omega)), trivial⟩ ⟨by omega, by omega, by omega, by omega, hud⟩ (by omega)
    · have hie' : i = e := by omega
      have hry := hrx.up huy
      obtain ⟨_, hpl⟩ := outL_append (Z := []) htm
      rw [List.append_nil] at hpl
      have hol' := outL_len M _ htm
      have hmem' : ∀ t : Int, 0 ≤ t → t < 6 → t ∈ ((tc : Nat) : Int) :: outL (tc : Int) M := fun t h1 h2 => List.mem_cons.2 ((outL_mem M _ t htm).1 (hmem t h1 h2))
      repeat (first | refine WL.move rfl rfl ?_ | refine WL.assign rfl rfl ?_ | refine W.seq ?_ | refine W.region ?_ | refine WL.nil ?_ | refine Post.next ?_ | refine Post.tail ?_ | refine W.cond_t rfl ?_ | refine W.cond_f rfl ?_ | refine W.block ?_ | refine W.skip ?_ | refine W.exit ?_ | refine W.ret ?_ | refine Post.block_exit ?_ | refine Post.block_other rfl ?_ | refine Post.then_exit ?_ | refine Post.then_ret ?_ | refine Post.block_ret ?_ | refine Post.block_normal ?_ | refine WL.lenS (tyS rfl) rfl rfl ?_ | refine WL.lenStr und9 rfl rfl ?_ | refine WL.fieldAddr (tyF rfl) rfl rfl ?_ | refine WL.not rfl rfl ?_ | refine WL.pick_t rfl rfl rfl ?_ | refine WL.pick_f rfl rfl rfl ?_ | refine WL.want rfl rfl ?_ | refine WL.skip rfl rfl rfl rfl ?_ | refine WL.extract rfl rfl rfl ?_ | refine WL.addI rfl rfl (by omega) rfl ?_ | refine WL.subI rfl rfl (by omega) rfl ?_ | refine WL.indexS (tyS rfl) rfl rfl (by omega) rfl ?_ | refine WL.indexA (tyR rfl) rfl rfl (by omega) rfl ?_)
      refine WL.load (o' := co + j) (tyP rfl) rfl (fun _ e => e) (hcc (hux.trans huy)) (by first | omega | (simp; done) | (simp; omega)) rfl ?_
      repeat (first | refine WL.move rfl rfl ?_ | refine WL.assign rfl rfl ?_ | refine W.seq ?_ | refine W.region ?_ | refine WL.nil ?_ | refine Post.next ?_ | refine Post.tail ?_ | refine W.cond_t rfl ?_ | refine W.cond_f rfl ?_ | refine W.block ?_ | refine W.skip ?_ | refine W.exit ?_ | refine W.ret ?_ | refine Post.block_exit ?_ | refine Post.block_other rfl ?_ | refine Post.then_exit ?_ | refine Post.then_ret ?_ | refine Post.block_ret ?_ | refine Post.block_normal ?_ | refine WL.lenS (tyS rfl) rfl rfl ?_ | refine WL.lenStr und9 rfl rfl ?_ | refine WL.fieldAddr (tyF rfl) rfl rfl ?_ | refine WL.not rfl rfl ?_ | refine WL.pick_t rfl rfl rfl ?_ | refine WL.pick_f rfl rfl rfl ?_ | refine WL.want rfl rfl ?_ | refine WL.skip rfl rfl rfl rfl ?_ | refine WL.extract rfl rfl rfl ?_ | refine WL.addI rfl rfl (by omega) rfl ?_ | refine WL.subI rfl rfl (by omega) rfl ?_ | refine WL.indexS (tyS rfl) rfl rfl (by omega) rfl ?_ | refine WL.indexA (tyR rfl) rfl rfl (by omega) rfl ?_)
      refine WL.call _ (fnT rfl) (args2 rfl rfl) (zzMove_c wy g M _ hry hM htm) (by rintro e w' ⟨rfl, _⟩; exact ⟨_, rfl⟩) rfl ?_
      rintro _ w7 ⟨hv, hr7, hg7⟩
      cases hv
      refine ⟨trivial, ?_⟩
      generalize hpd : posL (tc : Int) M = p at *
      simp only at hz
      repeat (first | refine WL.move rfl rfl ?_ | refine WL.assign rfl rfl ?_ | refine W.seq ?_ | refine W.region ?_ | refine WL.nil ?_ | refine Post.next ?_ | refine Post.tail ?_ | refine W.cond_t rfl ?_ | refine W.cond_f rfl ?_ | refine W.block ?_ | refine W.skip ?_ | refine W.exit ?_ | refine W.ret ?_ | refine Post.block_exit ?_ | refine Post.block_other rfl ?_ | refine Post.then_exit ?_ | refine Post.then_ret ?_ | refine Post.block_ret ?_ | refine Post.block_normal ?_ | refine WL.lenS (tyS rfl) rfl rfl ?_ | refine WL.lenStr und9 rfl rfl ?_ | refine WL.fieldAddr (tyF rfl) rfl rfl ?_ | refine WL.not rfl rfl ?_ | refine WL.pick_t rfl rfl rfl ?_ | refine WL.pick_f rfl rfl rfl ?_ | refine WL.want rfl rfl ?_ | refine WL.skip rfl rfl rfl rfl ?_ | refine WL.extract rfl rfl rfl ?_ | refine WL.addI rfl rfl (by omega) rfl ?_ | refine WL.subI rfl rfl (by omega) rfl ?_ | refine WL.indexS (tyS rfl) rfl rfl (by omega) rfl ?_ | refine WL.indexA (tyR rfl) rfl rfl (by omega) rfl ?_)
      refine Post.round3 (j + 1) (z + (gb + p + 1)) _ ⟨rfl, rfl, rfl, rfl, rfl, rfl, rfl, rfl, rfl, (by first | rfl | (simp [look]; done) | (simp [look]; omega)), rfl, (by first | rfl | (simp [look]; done) | (simp [look]; omega)), trivial⟩ ⟨by omega, by simp only [List.length_cons]; omega, hmem', ?_, by omega, hr7, (hux.trans huy).step hg7 (by intro q hq; cases hq; omega)⟩ (by omega)
      rw [← he, ← hie', ← hgb]
      omega
  have hje : j = ch.length := by omega
  rw [hje, List.drop_of_length_le (Nat.le_refl _), choOps] at hz
  have h0 : tot [] = 0 := rfl
  have hmn : min (ch.length * 50) ys.length = ys.length := by omega
  rw [hmn] at hz
  have hyn := hyT ys.length
  repeat (first | refine WL.move rfl rfl ?_ | refine WL.assign rfl rfl ?_ | refine W.seq ?_ | refine W.region ?_ | refine WL.nil ?_ | refine Post.next ?_ | refine Post.tail ?_ | refine W.cond_t rfl ?_ | refine W.cond_f rfl ?_ | refine W.block ?_ | refine W.skip ?_ | refine W.exit ?_ | refine W.ret ?_ | refine Post.block_exit ?_ | refine Post.block_other rfl ?_ | refine Post.then_exit ?_ | refine Post.then_ret ?_ | refine Post.block_ret ?_ | refine Post.block_normal ?_ | refine WL.lenS (tyS rfl) rfl rfl ?_ | refine WL.lenStr und9 rfl rfl ?_ | refine WL.fieldAddr (tyF rfl) rfl rfl ?_ | refine WL.not rfl rfl ?_ | refine WL.pick_t rfl rfl rfl ?_ | refine WL.pick_f rfl rfl rfl ?_ | refine WL.want rfl rfl ?_ | refine WL.skip rfl rfl rfl rfl ?_ | refine WL.extract rfl rfl rfl ?_ | refine WL.addI rfl rfl (by omega) rfl ?_ | refine WL.subI rfl rfl (by omega) rfl ?_ | refine WL.indexS (tyS rfl) rfl rfl (by omega) rfl ?_ | refine WL.indexA (tyR rfl) rfl rfl (by omega) rfl ?_)
  -- the codes
  refine W.loop2 (fun (t z : Nat) => [(0, .slice la2 k lc2), (1, .slice ca2 ch.length cc2), (2, .int .i64 bits), (3, ov), (4, .int .u64 (acc : Int)), (5, .int .u64 (n : Int)), (6, .slice ya2 ys.length yc2), (7, .int .i64 al), (17, .int .i64 k), (18, .int .i64 z), (26, .int .i64 t)])
    (fun t z wx => t ≤ k ∧ z = tot (S0.codsOps t) + symT f ch ys ys.length ∧ z ≤ 900000000 + 261637 * t ∧ Up w5 wx) (fun t _ => k - t) 0 z ⟨rfl, rfl, rfl, rfl, rfl, rfl, rfl, rfl, rfl, rfl, rfl, trivial⟩ ⟨by omega, by omega, by omega, hux⟩ ?_
  clear hz hzb hux hrx
  rintro t z wx ⟨htk, hz, hzb, hux⟩
  repeat (first | refine WL.move rfl rfl ?_ | refine WL.assign rfl rfl ?_ | refine W.seq ?_ | refine W.region ?_ | refine WL.nil ?_ | refine Post.next ?_ | refine Post.tail ?_ | refine W.cond_t rfl ?_ | refine W.cond_f rfl ?_ | refine W.block ?_ | refine W.skip ?_ | refine W.exit ?_ | refine W.ret ?_ | refine Post.block_exit ?_ | refine Post.block_other rfl ?_ | refine Post.then_exit ?_ | refine Post.then_ret ?_ | refine Post.block_ret ?_ | refine Post.block_normal ?_ | refine WL.lenS (tyS rfl) rfl rfl ?_ | refine WL.lenStr und9 rfl rfl ?_ | refine WL.fieldAddr (tyF rfl) rfl rfl ?_ | refine WL.not rfl rfl ?_ | refine WL.pick_t rfl rfl rfl ?_ | refine WL.pick_f rfl rfl rfl ?_ | refine WL.want rfl rfl ?_ | refine WL.skip rfl rfl rfl rfl ?_ | refine WL.extract rfl rfl rfl ?_ | refine WL.addI rfl rfl (by omega) rfl ?_ | refine WL.subI rfl rfl (by omega) rfl ?_ | refine WL.indexS (tyS rfl) rfl rfl (by omega) rfl ?_ | refine WL.indexA (tyR rfl) rfl rfl (by omega) rfl ?_)
  refine WL.lss rfl rfl rfl (fun hlt => ?_) (fun hge2 => ?_)
  · have htk' : t < k := by omega
    obtain ⟨ha1, ha2⟩ := halp (by omega)
    have hal' := hal (by omega)
    subst hal'
    obtain ⟨hla', hrowL⟩ := hgL (by omega)
    subst hla'
    have hsucc : tot (S0.codsOps (t + 1)) = tot (S0.codsOps t) + tot (codOps (f t) alpha) := by rw [Src.codsOps_succ, tot_app, hSf, hSa]
    have hcb3 := tot_cod_le (f t) (hf8 t) (alpha := alpha) ha2
    repeat (first | refine WL.move rfl rfl ?_ | refine WL.assign rfl rfl ?_ | refine W.seq ?_ | refine W.region ?_ | refine WL.nil ?_ | refine Post.next ?_ | refine Post.tail ?_ | refine W.cond_t rfl ?_ | refine W.cond_f rfl ?_ | refine W.block ?_ | refine W.skip ?_ | refine W.exit ?_ | refine W.ret ?_ | refine Post.block_exit ?_ | refine Post.block_other rfl ?_ | refine Post.then_exit ?_ | refine Post.then_ret ?_ | refine Post.block_ret ?_ | refine Post.block_normal ?_ | refine WL.lenS (tyS rfl) rfl rfl ?_ | refine WL.lenStr und9 rfl rfl ?_ | refine WL.fieldAddr (tyF rfl) rfl rfl ?_ | refine WL.not rfl rfl ?_ | refine WL.pick_t rfl rfl rfl ?_ | refine WL.pick_f rfl rfl rfl ?_ | refine WL.want rfl rfl ?_ | refine WL.skip rfl rfl rfl rfl ?_ | refine WL.extract rfl rfl rfl ?_ | refine WL.addI rfl rfl (by omega) rfl ?_ | refine WL.subI rfl rfl (by omega) rfl ?_ | refine WL.indexS (tyS rfl) rfl rfl (by omega) rfl ?_ | refine WL.indexA (tyR rfl) rfl rfl (by omega) rfl ?_)
    refine WL.sliceAH (tyR rfl) rfl rfl (by omega) rfl ?_
    have ea1 : ((alpha : Int)).toNat = alpha := by omega
    have ea2 : 0 + ((t : Int)).toNat * 512 = t * 512 := by omega
    rw [ea1, ea2]
    repeat (first | refine WL.move rfl rfl ?_ | refine WL.assign rfl rfl ?_ | refine W.seq ?_ | refine W.region ?_ | refine WL.nil ?_ | refine Post.next ?_ | refine Post.tail ?_ | refine W.cond_t rfl ?_ | refine W.cond_f rfl ?_ | refine W.block ?_ | refine W.skip ?_ | refine W.exit ?_ | refine W.ret ?_ | refine Post.block_exit ?_ | refine Post.block_other rfl ?_ | refine Post.then_exit ?_ | refine Post.then_ret ?_ | refine Post.block_ret ?_ | refine Post.block_normal ?_ | refine WL.lenS (tyS rfl) rfl rfl ?_ | refine WL.lenStr und9 rfl rfl ?_ | refine WL.fieldAddr (tyF rfl) rfl rfl ?_ | refine WL.not rfl rfl ?_ | refine WL.pick_t rfl rfl rfl ?_ | refine WL.pick_f rfl rfl rfl ?_ | refine WL.want rfl rfl ?_ | refine WL.skip rfl rfl rfl rfl ?_ | refine WL.extract rfl rfl rfl ?_ | refine WL.addI rfl rfl (by omega) rfl ?_ | refine WL.subI rfl rfl (by omega) rfl ?_ | refine WL.indexS (tyS rfl) rfl rfl (by omega) rfl ?_ | refine WL.indexA (tyR rfl) rfl rfl (by omega) rfl ?_)
    refine WL.call _ (fnT rfl) (args1 rfl) (zzDesc_c wx gL (t * 512) alpha 512 (f t) (hf8 t) ⟨ha1, ha2⟩ (fun q hq => hux.cell (hrowL.cell (lenC_at htk' (by omega))))) (by rintro e w' ⟨rfl, _⟩; exact ⟨_, rfl⟩) rfl ?_
    rintro _ w7 ⟨hv, rfl⟩
    cases hv
    refine ⟨trivial, ?_⟩
    repeat (first | refine WL.move rfl rfl ?_ | refine WL.assign rfl rfl ?_ | refine W.seq ?_ | refine W.region ?_ | refine WL.nil ?_ | refine Post.next ?_ | refine Post.tail ?_ | refine W.cond_t rfl ?_ | refine W.cond_f rfl ?_ | refine W.block ?_ | refine W.skip ?_ | refine W.exit ?_ | refine W.ret ?_ | refine Post.block_exit ?_ | refine Post.block_other rfl ?_ | refine Post.then_exit ?_ | refine Post.then_ret ?_ | refine Post.block_ret ?_ | refine Post.block_normal ?_ | refine WL.lenS (tyS rfl) rfl rfl ?_ | refine WL.lenStr und9 rfl rfl ?_ | refine WL.fieldAddr (tyF rfl) rfl rfl ?_ | refine WL.not rfl rfl ?_ | refine WL.pick_t rfl rfl rfl ?_ | refine WL.pick_f rfl rfl rfl ?_ | refine WL.want rfl rfl ?_ | refine WL.skip rfl rfl rfl rfl ?_ | refine WL.extract rfl rfl rfl ?_ | refine WL.addI rfl rfl (by omega) rfl ?_ | refine WL.subI rfl rfl (by omega) rfl ?_ | refine WL.indexS (tyS rfl) rfl rfl (by omega) rfl ?_ | refine WL.indexA (tyR rfl) rfl rfl (by omega) rfl ?_)
    exact Post.round2 (t + 1) (z + tot (codOps (f t) alpha)) ⟨rfl, rfl, rfl, rfl, rfl, rfl, rfl, rfl, rfl, (by first | rfl | (simp [look]; done) | (simp [look]; omega)), (by first | rfl | (simp [look]; done) | (simp [look]; omega)), trivial⟩ ⟨by omega, by omega, by omega, hux⟩ (by omega)
  have htk2 : t = k := by omega
  rw [htk2] at hz
  repeat (first | refine WL.move rfl rfl ?_ | refine WL.assign rfl rfl ?_ | refine W.seq ?_ | refine W.region ?_ | refine WL.nil ?_ | refine Post.next ?_ | refine Post.tail ?_ | refine W.cond_t rfl ?_ | refine W.cond_f rfl ?_ | refine W.block ?_ | refine W.skip ?_ | refine W.exit ?_ | refine W.ret ?_ | refine Post.block_exit ?_ | refine Post.block_other rfl ?_ | refine Post.then_exit ?_ | refine Post.then_ret ?_ | refine Post.block_ret ?_ | refine Post.block_normal ?_ | refine WL.lenS (tyS rfl) rfl rfl ?_ | refine WL.lenStr und9 rfl rfl ?_ | refine WL.fieldAddr (tyF rfl) rfl rfl ?_ | refine WL.not rfl rfl ?_ | refine WL.pick_t rfl rfl rfl ?_ | refine WL.pick_f rfl rfl rfl ?_ | refine WL.want rfl rfl ?_ | refine WL.skip rfl rfl rfl rfl ?_ | refine WL.extract rfl rfl rfl ?_ | refine WL.addI rfl rfl (by omega) rfl ?_ | refine WL.subI rfl rfl (by omega) rfl ?_ | refine WL.indexS (tyS rfl) rfl rfl (by omega) rfl ?_ | refine WL.indexA (tyR rfl) rfl rfl (by omega) rfl ?_)
  refine WL.gtr rfl rfl rfl (fun hg => ?_) (fun hz8 => ?_)
  · repeat (first | refine WL.move rfl rfl ?_ | refine WL.assign rfl rfl ?_ | refine W.seq ?_ | refine W.region ?_ | refine WL.nil ?_ | refine Post.next ?_ | refine Post.tail ?_ | refine W.cond_t rfl ?_ | refine W.cond_f rfl ?_ | refine W.block ?_ | refine W.skip ?_ | refine W.exit ?_ | refine W.ret ?_ | refine Post.block_exit ?_ | refine Post.block_other rfl ?_ | refine Post.then_exit ?_ | refine Post.then_ret ?_ | refine Post.block_ret ?_ | refine Post.block_normal ?_ | refine WL.lenS (tyS rfl) rfl rfl ?_ | refine WL.lenStr und9 rfl rfl ?_ | refine WL.fieldAddr (tyF rfl) rfl rfl ?_ | refine WL.not rfl rfl ?_ | refine WL.pick_t rfl rfl rfl ?_ | refine WL.pick_f rfl rfl rfl ?_ | refine WL.want rfl rfl ?_ | refine WL.skip rfl rfl rfl rfl ?_ | refine WL.extract rfl rfl rfl ?_ | refine WL.addI rfl rfl (by omega) rfl ?_ | refine WL.subI rfl rfl (by omega) rfl ?_ | refine WL.indexS (tyS rfl) rfl rfl (by omega) rfl ?_ | refine WL.indexA (tyR rfl) rfl rfl (by omega) rfl ?_)
    exact Post.ret1 rfl rfl ⟨rfl, U5.trans hux⟩
  repeat (first | refine WL.move rfl rfl ?_ | refine WL.assign rfl rfl ?_ | refine W.seq ?_ | refine W.region ?_ | refine WL.nil ?_ | refine Post.next ?_ | refine Post.tail ?_ | refine W.cond_t rfl ?_ | refine W.cond_f rfl ?_ | refine W.block ?_ | refine W.skip ?_ | refine W.exit ?_ | refine W.ret ?_ | refine Post.block_exit ?_ | refine Post.block_other rfl ?_ | refine Post.then_exit ?_ | refine Post.then_ret ?_ | refine Post.block_ret ?_ | refine Post.block_normal ?_ | refine WL.lenS (tyS rfl) rfl rfl ?_ | refine WL.lenStr und9 rfl rfl ?_ | refine WL.fieldAddr (tyF rfl) rfl rfl ?_ | refine WL.not rfl rfl ?_ | refine WL.pick_t rfl rfl rfl ?_ | refine WL.pick_f rfl rfl rfl ?_ | refine WL.want rfl rfl ?_ | refine WL.skip rfl rfl rfl rfl ?_ | refine WL.extract rfl rfl rfl ?_ | refine WL.addI rfl rfl (by omega) rfl ?_ | refine WL.subI rfl rfl (by omega) rfl ?_ | refine WL.indexS (tyS rfl) rfl rfl (by omega) rfl ?_ | refine WL.indexA (tyR rfl) rfl rfl (by omega) rfl ?_)
  refine WL.call _ (fnT rfl) (args1 rfl) (cloneB_c wx _ os (IntsV_own (ownsRow_up hoo5 hux)) (by omega)) (by rintro e w' ⟨_, rfl, _⟩; exact ⟨_, rfl⟩) rfl ?_
  rintro v w7 ⟨pv, hv, hop, hu7⟩
  have hv := (Ending.returned.inj hv).symm
  subst hv
  refine ⟨trivial, ?_⟩
  have U57 := hux.trans hu7
  have zx5 := hux.size
  have zx7 := hu7.size
  have hooz := ownsRow_up hoo5 U57
  have hat : ∀ w', (∀ i, i < w7.heap.size → ov.ownBlock ≠ some i → w'.heap[i]? = w7.heap[i]?) → Src.At (⟨la2, gL, 0, lc2, ca2, cb, co, cc2, ya2, yb, yo, yc2, k, alpha, f, ch, ys⟩ : Src) w' := by
    intro w' h
    have hrow : 0 < k → Row w' gL (lenC k f) 29 := fun h0 => by
      have hr := (hgL h0).2.up U57
      unfold Row
      rw [h gL hr.lt (own_ne_row hooz hr (by decide))]; exact hr
    refine hAtO w' hrow ⟨fun hne => ?_⟩ ⟨fun hne => ?_⟩
    · obtain ⟨bk, o, e, hcell⟩ := (hci.up U57).ad hne
      refine ⟨bk, o, e, fun i x hx => ?_⟩
      have hc := hcell i x hx
      have hbk' : bk < w7.heap.size := World.block_lt_of_cell? w7 _ hc
      have hne' : ov.ownBlock ≠ some bk := fun e2 => by
        have h1 := (hoo.lt bk e2).1
        have h2 := (hoc.lt bk (by rw [e]; rfl)).2
        omega
      have := h bk hbk' hne'
      simpa [World.cell?, this] using hc
    · obtain ⟨bk, o, e, hcell⟩ := (hyi.up U57).ad hne
      refine ⟨bk, o, e, fun i x hx => ?_⟩
      have hc := hcell i x hx
      have hbk' : bk < w7.heap.size := World.block_lt_of_cell? w7 _ hc
      have hne' : ov.ownBlock ≠ some bk := fun e2 => by
        have h1 := (hoo.lt bk e2).2
        have h2 := (hoy.lt bk (by rw [e]; rfl)).1
        omega
      have := h bk hbk' hne'
      simpa [World.cell?, this] using hc
  repeat (first | refine WL.move rfl rfl ?_ | refine WL.assign rfl rfl ?_ | refine W.seq ?_ | refine W.region ?_ | refine WL.nil ?_ | refine Post.next ?_ | refine Post.tail ?_ | refine W.cond_t rfl ?_ | refine W.cond_f rfl ?_ | refine W.block ?_ | refine W.skip ?_ | refine W.exit ?_ | refine W.ret ?_ | refine Post.block_exit ?_ | refine Post.block_other rfl ?_ | refine Post.then_exit ?_ | refine Post.then_ret ?_ | refine Post.block_ret ?_ | refine Post.block_normal ?_ | refine WL.lenS (tyS rfl) rfl rfl ?_ | refine WL.lenStr und9 rfl rfl ?_ | refine WL.fieldAddr (tyF rfl) rfl rfl ?_ | refine WL.not rfl rfl ?_ | refine WL.pick_t rfl rfl rfl ?_ | refine WL.pick_f rfl rfl rfl ?_ | refine WL.want rfl rfl ?_ | refine WL.skip rfl rfl rfl rfl ?_ | refine WL.extract rfl rfl rfl ?_ | refine WL.addI rfl rfl (by omega) rfl ?_ | refine WL.subI rfl rfl (by omega) rfl ?_ | refine WL.indexS (tyS rfl) rfl rfl (by omega) rfl ?_ | refine WL.indexA (tyR rfl) rfl rfl (by omega) rfl ?_)
  refine WL.call _ (fnT rfl) (args8 rfl rfl rfl rfl rfl rfl rfl rfl) (zzcw_c (⟨la2, gL, 0, lc2, ca2, cb, co, cc2, ya2, yb, yo, yc2, k, alpha, f, ch, ys⟩ : Src) hok w7 w3.heap.size ov bits al ⟨os, acc, n⟩ hooz (by omega) (by simp only; omega) hacc (by simp only; omega) hat hal) (by rintro e w' ⟨_, _, rfl, _⟩; exact ⟨_, rfl⟩) rfl ?_
  rintro v w8 ⟨v8, C, hv, _, how, hst, hn8⟩
  cases hv
  refine ⟨trivial, ?_⟩
  have hops : tot (Src.allOps (⟨la2, gL, 0, lc2, ca2, cb, co, cc2, ya2, yb, yo, yc2, k, alpha, f, ch, ys⟩ : Src) C) = z := by
    rw [← hS]
    unfold Src.allOps
    rw [tot_app, symT_tot, hSk, hz, hS]
  have hlen := wrs_len (Src.allOps (⟨la2, gL, 0, lc2, ca2, cb, co, cc2, ya2, yb, yo, yc2, k, alpha, f, ch, ys⟩ : Src) C) ⟨os, acc, n⟩
  obtain ⟨E, hE⟩ := wrs_pre (Src.allOps (⟨la2, gL, 0, lc2, ca2, cb, co, cc2, ya2, yb, yo, yc2, k, alpha, f, ch, ys⟩ : Src) C) ⟨os, acc, n⟩
  rw [hops] at hlen
  have hz18 : 18 ≤ z := by
    have h1 : tot (S0.codsOps k) = tot (S0.codsOps 0) + tot ((List.range k).flatMap fun t => codOps (S0.f t) S0.alpha) := by
      simp [Src.codsOps, tot_app]
    omega
  generalize wrs ⟨os, acc, n⟩ (Src.allOps (⟨la2, gL, 0, lc2, ca2, cb, co, cc2, ya2, yb, yo, yc2, k, alpha, f, ch, ys⟩ : Src) C) = fs at *
  simp only at hlen hE
  have hle : fs.bs.length = os.length + E.length := by rw [hE]; simp
  have hop8 := hop.kept hst.g (by
    cases hub : pv.ownBlock with
    | none => exact .inl rfl
    | some q =>
      right
      intro e
      have h1 := (hop.lt q hub).1
      have h2 := (hoo5.lt q e.symm).2
      omega)
  have U8 : Up w1 w8 := (U5.trans U57).step hst.g (fun q hq => by have := (hoo.lt q hq).1; omega)
  obtain ⟨va, vc, hv8, hvi, hvc⟩ := IntsV_own how
  subst hv8
  obtain ⟨bk, o, e, hcell⟩ := hvi.get (j := 0) (by omega)
  subst e
  obtain ⟨pa, pc, hpv, hpi, hpc⟩ := IntsV_own hop8
  subst hpv
  have hpre : IntsV .u8 w8 (.slice (some ⟨bk, o, none⟩) os.length vc) os := by
    refine ⟨some ⟨bk, o, none⟩, vc, rfl, ⟨fun _ => ⟨bk, o, rfl, fun i x hx => ?_⟩⟩, by omega⟩
    have hi : i < os.length := (List.getElem?_eq_some_iff.1 hx).1
    have h1 := hcell i (by omega)
    have h2 : fs.bs[i]? = some x := by rw [hE, List.getElem?_append_left hi]; exact hx
    rw [List.getElem?_eq_getElem (by omega)] at h2
    rw [Option.some.inj h2] at h1
    exact h1
  have hos : ((os.length : Int)).toNat = os.length := by omega
  repeat (first | refine WL.move rfl rfl ?_ | refine WL.assign rfl rfl ?_ | refine W.seq ?_ | refine W.region ?_ | refine WL.nil ?_ | refine Post.next ?_ | refine Post.tail ?_ | refine W.cond_t rfl ?_ | refine W.cond_f rfl ?_ | refine W.block ?_ | refine W.skip ?_ | refine W.exit ?_ | refine W.ret ?_ | refine Post.block_exit ?_ | refine Post.block_other rfl ?_ | refine Post.then_exit ?_ | refine Post.then_ret ?_ | refine Post.block_ret ?_ | refine Post.block_normal ?_ | refine WL.lenS (tyS rfl) rfl rfl ?_ | refine WL.lenStr und9 rfl rfl ?_ | refine WL.fieldAddr (tyF rfl) rfl rfl ?_ | refine WL.not rfl rfl ?_ | refine WL.pick_t rfl rfl rfl ?_ | refine WL.pick_f rfl rfl rfl ?_ | refine WL.want rfl rfl ?_ | refine WL.skip rfl rfl rfl rfl ?_ | refine WL.extract rfl rfl rfl ?_ | refine WL.addI rfl rfl (by omega) rfl ?_ | refine WL.subI rfl rfl (by omega) rfl ?_ | refine WL.indexS (tyS rfl) rfl rfl (by omega) rfl ?_ | refine WL.indexA (tyR rfl) rfl rfl (by omega) rfl ?_ | (first | refine WL.lss_t rfl rfl (by omega) rfl ?_ | refine WL.lss_f rfl rfl (by omega) rfl ?_ | refine WL.gtr_t rfl rfl (by omega) rfl ?_ | refine WL.gtr_f rfl rfl (by omega) rfl ?_ | refine WL.eqI_t rfl rfl (by omega) rfl ?_ | refine WL.eqI_f rfl rfl (by omega) rfl ?_ | refine WL.neqI_t rfl rfl (by omega) rfl ?_ | refine WL.neqI_f rfl rfl (by omega) rfl ?_ | refine WL.leq_t rfl rfl (by omega) rfl ?_ | refine WL.leq_f rfl rfl (by omega) rfl ?_ | refine WL.geq_t rfl rfl (by omega) rfl ?_ | refine WL.geq_f rfl rfl (by omega) rfl ?_))
  refine WL.sliceSH (tyS rfl) rfl rfl (by omega) rfl ?_
  rw [hos]
  repeat (first | refine WL.move rfl rfl ?_ | refine WL.assign rfl rfl ?_ | refine W.seq ?_ | refine W.region ?_ | refine WL.nil ?_ | refine Post.next ?_ | refine Post.tail ?_ | refine W.cond_t rfl ?_ | refine W.cond_f rfl ?_ | refine W.block ?_ | refine W.skip ?_ | refine W.exit ?_ | refine W.ret ?_ | refine Post.block_exit ?_ | refine Post.block_other rfl ?_ | refine Post.then_exit ?_ | refine Post.then_ret ?_ | refine Post.block_ret ?_ | refine Post.block_normal ?_ | refine WL.lenS (tyS rfl) rfl rfl ?_ | refine WL.lenStr und9 rfl rfl ?_ | refine WL.fieldAddr (tyF rfl) rfl rfl ?_ | refine WL.not rfl rfl ?_ | refine WL.pick_t rfl rfl rfl ?_ | refine WL.pick_f rfl rfl rfl ?_ | refine WL.want rfl rfl ?_ | refine WL.skip rfl rfl rfl rfl ?_ | refine WL.extract rfl rfl rfl ?_ | refine WL.addI rfl rfl (by omega) rfl ?_ | refine WL.subI rfl rfl (by omega) rfl ?_ | refine WL.indexS (tyS rfl) rfl rfl (by omega) rfl ?_ | refine WL.indexA (tyR rfl) rfl rfl (by omega) rfl ?_)
  refine WL.call _ (fnT rfl) (args2 rfl rfl) (eqB_v w8 _ _ os hpre ⟨pa, pc, rfl, hpi, hpc⟩ (by omega)) (by rintro e w' ⟨rfl, _⟩; exact ⟨_, rfl⟩) rfl ?_
  rintro v w9 ⟨hv, hu9⟩
  cases hv
  refine ⟨trivial, ?_⟩
  repeat (first | refine WL.move rfl rfl ?_ | refine WL.assign rfl rfl ?_ | refine W.seq ?_ | refine W.region ?_ | refine WL.nil ?_ | refine Post.next ?_ | refine Post.tail ?_ | refine W.cond_t rfl ?_ | refine W.cond_f rfl ?_ | refine W.block ?_ | refine W.skip ?_ | refine W.exit ?_ | refine W.ret ?_ | refine Post.block_exit ?_ | refine Post.block_other rfl ?_ | refine Post.then_exit ?_ | refine Post.then_ret ?_ | refine Post.block_ret ?_ | refine Post.block_normal ?_ | refine WL.lenS (tyS rfl) rfl rfl ?_ | refine WL.lenStr und9 rfl rfl ?_ | refine WL.fieldAddr (tyF rfl) rfl rfl ?_ | refine WL.not rfl rfl ?_ | refine WL.pick_t rfl rfl rfl ?_ | refine WL.pick_f rfl rfl rfl ?_ | refine WL.want rfl rfl ?_ | refine WL.skip rfl rfl rfl rfl ?_ | refine WL.extract rfl rfl rfl ?_ | refine WL.addI rfl rfl (by omega) rfl ?_ | refine WL.subI rfl rfl (by omega) rfl ?_ | refine WL.indexS (tyS rfl) rfl rfl (by omega) rfl ?_ | refine WL.indexA (tyR rfl) rfl rfl (by omega) rfl ?_)
  refine WL.mulI rfl rfl (by omega) rfl ?_
  repeat (first | refine WL.move rfl rfl ?_ | refine WL.assign rfl rfl ?_ | refine W.seq ?_ | refine W.region ?_ | refine WL.nil ?_ | refine Post.next ?_ | refine Post.tail ?_ | refine W.cond_t rfl ?_ | refine W.cond_f rfl ?_ | refine W.block ?_ | refine W.skip ?_ | refine W.exit ?_ | refine W.ret ?_ | refine Post.block_exit ?_ | refine Post.block_other rfl ?_ | refine Post.then_exit ?_ | refine Post.then_ret ?_ | refine Post.block_ret ?_ | refine Post.block_normal ?_ | refine WL.lenS (tyS rfl) rfl rfl ?_ | refine WL.lenStr und9 rfl rfl ?_ | refine WL.fieldAddr (tyF rfl) rfl rfl ?_ | refine WL.not rfl rfl ?_ | refine WL.pick_t rfl rfl rfl ?_ | refine WL.pick_f rfl rfl rfl ?_ | refine WL.want rfl rfl ?_ | refine WL.skip rfl rfl rfl rfl ?_ | refine WL.extract rfl rfl rfl ?_ | refine WL.addI rfl rfl (by omega) rfl ?_ | refine WL.subI rfl rfl (by omega) rfl ?_ | refine WL.indexS (tyS rfl) rfl rfl (by omega) rfl ?_ | refine WL.indexA (tyR rfl) rfl rfl (by omega) rfl ?_)
  refine WL.conv' (kd' := .i64) (tyI rfl) (tyI rfl) rfl (i64w (by omega) (by omega)) rfl ?_
  repeat (first | refine WL.move rfl rfl ?_ | refine WL.assign rfl rfl ?_ | refine W.seq ?_ | refine W.region ?_ | refine WL.nil ?_ | refine Post.next ?_ | refine Post.tail ?_ | refine W.cond_t rfl ?_ | refine W.cond_f rfl ?_ | refine W.block ?_ | refine W.skip ?_ | refine W.exit ?_ | refine W.ret ?_ | refine Post.block_exit ?_ | refine Post.block_other rfl ?_ | refine Post.then_exit ?_ | refine Post.then_ret ?_ | refine Post.block_ret ?_ | refine Post.block_normal ?_ | refine WL.lenS (tyS rfl) rfl rfl ?_ | refine WL.lenStr und9 rfl rfl ?_ | refine WL.fieldAddr (tyF rfl) rfl rfl ?_ | refine WL.not rfl rfl ?_ | refine WL.pick_t rfl rfl rfl ?_ | refine WL.pick_f rfl rfl rfl ?_ | refine WL.want rfl rfl ?_ | refine WL.skip rfl rfl rfl rfl ?_ | refine WL.extract rfl rfl rfl ?_ | refine WL.addI rfl rfl (by omega) rfl ?_ | refine WL.subI rfl rfl (by omega) rfl ?_ | refine WL.indexS (tyS rfl) rfl rfl (by omega) rfl ?_ | refine WL.indexA (tyR rfl) rfl rfl (by omega) rfl ?_)
  refine WL.conv' (kd' := .i64) (tyI rfl) (tyI rfl) rfl (i64w (by omega) (by omega)) rfl ?_
  repeat (first | refine WL.move rfl rfl ?_ | refine WL.assign rfl rfl ?_ | refine W.seq ?_ | refine W.region ?_ | refine WL.nil ?_ | refine Post.next ?_ | refine Post.tail ?_ | refine W.cond_t rfl ?_ | refine W.cond_f rfl ?_ | refine W.block ?_ | refine W.skip ?_ | refine W.exit ?_ | refine W.ret ?_ | refine Post.block_exit ?_ | refine Post.block_other rfl ?_ | refine Post.then_exit ?_ | refine Post.then_ret ?_ | refine Post.block_ret ?_ | refine Post.block_normal ?_ | refine WL.lenS (tyS rfl) rfl rfl ?_ | refine WL.lenStr und9 rfl rfl ?_ | refine WL.fieldAddr (tyF rfl) rfl rfl ?_ | refine WL.not rfl rfl ?_ | refine WL.pick_t rfl rfl rfl ?_ | refine WL.pick_f rfl rfl rfl ?_ | refine WL.want rfl rfl ?_ | refine WL.skip rfl rfl rfl rfl ?_ | refine WL.extract rfl rfl rfl ?_ | refine WL.addI rfl rfl (by omega) rfl ?_ | refine WL.subI rfl rfl (by omega) rfl ?_ | refine WL.indexS (tyS rfl) rfl rfl (by omega) rfl ?_ | refine WL.indexA (tyR rfl) rfl rfl (by omega) rfl ?_ | (first | refine WL.lss_t rfl rfl (by omega) rfl ?_ | refine WL.lss_f rfl rfl (by omega) rfl ?_ | refine WL.gtr_t rfl rfl (by omega) rfl ?_ | refine WL.gtr_f rfl rfl (by omega) rfl ?_ | refine WL.eqI_t rfl rfl (by omega) rfl ?_ | refine WL.eqI_f rfl rfl (by omega) rfl ?_ | refine WL.neqI_t rfl rfl (by omega) rfl ?_ | refine WL.neqI_f rfl rfl (by omega) rfl ?_ | refine WL.leq_t rfl rfl (by omega) rfl ?_ | refine WL.leq_f rfl rfl (by omega) rfl ?_ | refine WL.geq_t rfl rfl (by omega) rfl ?_ | refine WL.geq_f rfl rfl (by omega) rfl ?_))
  exact Post.ret1 rfl rfl ⟨rfl, U8.trans hu9⟩
end Go.Lx
