import Derived.Test.Qxb6602828aPt6
namespace Go.Lx
open Go.Proofs Go.RowKit

set_option maxHeartbeats 4000000 in
theorem part_c (w : World) (vt vc ve : Value) (T C Te : KV) (ent : ByteArray → E1) (hvt : MapV w vt T) (hvc : MapV w vc C) (hve : MapV w ve Te) (hTM : TM w T ent) (hCb : BoolM C) (hEb : BoolM Te) (hCk : ∀ k ∈ keys C, k.size ≤ 4096) (hTl : T.length ≤ 1048576) :
    Calls Try.prog 34 #[vt, vc, ve] w fun e w' => ∃ rp rw_ pm wm, e = .returned (.tuple #[.map (some rp), .map (some rw_)]) ∧ MapIs w' rp pm ∧ MapIs w' rw_ wm ∧ (∀ k v, mget wm k = some v → v = .bool true) ∧ KFin (InP T C) (seedD T C Te ent) (keys wm) ∧ POut w T ent (keys wm) pm ∧ Up w w' := by
  classical
  refine Calls.of_W (args := [vt, vc, ve]) Try.func34 rfl rfl rfl ?_
  repeat (first | refine WL.move rfl rfl ?_ | refine WL.assign rfl rfl ?_ | refine W.seq ?_ | refine W.region ?_ | refine WL.nil ?_ | refine Post.next ?_ | refine Post.tail ?_ | refine W.cond_t rfl ?_ | refine W.cond_f rfl ?_ | refine W.block ?_ | refine W.skip ?_ | refine W.exit ?_ | refine W.ret ?_ | refine Post.block_exit ?_ | refine Post.block_other rfl ?_ | refine Post.then_exit ?_ | refine Post.then_ret ?_ | refine Post.block_ret ?_ | refine Post.block_normal ?_ | refine WL.lenS (tyS rfl) rfl rfl ?_ | refine WL.lenStr und9 rfl rfl ?_ | refine WL.fieldAddr (tyF rfl) rfl rfl ?_ | refine WL.not rfl rfl ?_ | refine WL.pick_t rfl rfl rfl ?_ | refine WL.pick_f rfl rfl rfl ?_ | refine WL.want rfl rfl ?_ | refine WL.skip rfl rfl rfl rfl ?_ | refine WL.extract rfl rfl rfl ?_)
  refine WL.box rfl hvt.cells rfl ?_
  intro w1 hg1 hz1 hr1
  refine ⟨trivial, ?_⟩
  repeat (first | refine WL.move rfl rfl ?_ | refine WL.assign rfl rfl ?_ | refine W.seq ?_ | refine W.region ?_ | refine WL.nil ?_ | refine Post.next ?_ | refine Post.tail ?_ | refine W.cond_t rfl ?_ | refine W.cond_f rfl ?_ | refine W.block ?_ | refine W.skip ?_ | refine W.exit ?_ | refine W.ret ?_ | refine Post.block_exit ?_ | refine Post.block_other rfl ?_ | refine Post.then_exit ?_ | refine Post.then_ret ?_ | refine Post.block_ret ?_ | refine Post.block_normal ?_ | refine WL.lenS (tyS rfl) rfl rfl ?_ | refine WL.lenStr und9 rfl rfl ?_ | refine WL.fieldAddr (tyF rfl) rfl rfl ?_ | refine WL.not rfl rfl ?_ | refine WL.pick_t rfl rfl rfl ?_ | refine WL.pick_f rfl rfl rfl ?_ | refine WL.want rfl rfl ?_ | refine WL.skip rfl rfl rfl rfl ?_ | refine WL.extract rfl rfl rfl ?_)
  refine WL.box rfl hvc.cells rfl ?_
  intro w2 hg2 hz2 hr2
  refine ⟨trivial, ?_⟩
  repeat (first | refine WL.move rfl rfl ?_ | refine WL.assign rfl rfl ?_ | refine W.seq ?_ | refine W.region ?_ | refine WL.nil ?_ | refine Post.next ?_ | refine Post.tail ?_ | refine W.cond_t rfl ?_ | refine W.cond_f rfl ?_ | refine W.block ?_ | refine W.skip ?_ | refine W.exit ?_ | refine W.ret ?_ | refine Post.block_exit ?_ | refine Post.block_other rfl ?_ | refine Post.then_exit ?_ | refine Post.then_ret ?_ | refine Post.block_ret ?_ | refine Post.block_normal ?_ | refine WL.lenS (tyS rfl) rfl rfl ?_ | refine WL.lenStr und9 rfl rfl ?_ | refine WL.fieldAddr (tyF rfl) rfl rfl ?_ | refine WL.not rfl rfl ?_ | refine WL.pick_t rfl rfl rfl ?_ | refine WL.pick_f rfl rfl rfl ?_ | refine WL.want rfl rfl ?_ | refine WL.skip rfl rfl rfl rfl ?_ | refine WL.extract rfl rfl rfl ?_)
  refine WL.alloc (cs := [.map none]) (ZeroTy.of (z := .map none) (by kernel_rfl) rfl) rfl ?_
  intro w3 hg3 hz3 hr3
  refine ⟨trivial, ?_⟩
  repeat (first | refine WL.move rfl rfl ?_ | refine WL.assign rfl rfl ?_ | refine W.seq ?_ | refine W.region ?_ | refine WL.nil ?_ | refine Post.next ?_ | refine Post.tail ?_ | refine W.cond_t rfl ?_ | refine W.cond_f rfl ?_ | refine W.block ?_ | refine W.skip ?_ | refine W.exit ?_ | refine W.ret ?_ | refine Post.block_exit ?_ | refine Post.block_other rfl ?_ | refine Post.then_exit ?_ | refine Post.then_ret ?_ | refine Post.block_ret ?_ | refine Post.block_normal ?_ | refine WL.lenS (tyS rfl) rfl rfl ?_ | refine WL.lenStr und9 rfl rfl ?_ | refine WL.fieldAddr (tyF rfl) rfl rfl ?_ | refine WL.not rfl rfl ?_ | refine WL.pick_t rfl rfl rfl ?_ | refine WL.pick_f rfl rfl rfl ?_ | refine WL.want rfl rfl ?_ | refine WL.skip rfl rfl rfl rfl ?_ | refine WL.extract rfl rfl rfl ?_)
  refine WL.makeMap0 rfl ?_
  intro w4 hg4 hz4 hm4
  refine ⟨trivial, ?_⟩
  repeat (first | refine WL.move rfl rfl ?_ | refine WL.assign rfl rfl ?_ | refine W.seq ?_ | refine W.region ?_ | refine WL.nil ?_ | refine Post.next ?_ | refine Post.tail ?_ | refine W.cond_t rfl ?_ | refine W.cond_f rfl ?_ | refine W.block ?_ | refine W.skip ?_ | refine W.exit ?_ | refine W.ret ?_ | refine Post.block_exit ?_ | refine Post.block_other rfl ?_ | refine Post.then_exit ?_ | refine Post.then_ret ?_ | refine Post.block_ret ?_ | refine Post.block_normal ?_ | refine WL.lenS (tyS rfl) rfl rfl ?_ | refine WL.lenStr und9 rfl rfl ?_ | refine WL.fieldAddr (tyF rfl) rfl rfl ?_ | refine WL.not rfl rfl ?_ | refine WL.pick_t rfl rfl rfl ?_ | refine WL.pick_f rfl rfl rfl ?_ | refine WL.want rfl rfl ?_ | refine WL.skip rfl rfl rfl rfl ?_ | refine WL.extract rfl rfl rfl ?_)
  refine WL.store (o' := 0) (tyP rfl) rfl rfl rfl (hr3.up (Up.grown hg4)) rfl (by simp) ?_
  intro w5 hg5 hz5 hr5
  refine ⟨trivial, ?_⟩
  repeat (first | refine WL.move rfl rfl ?_ | refine WL.assign rfl rfl ?_ | refine W.seq ?_ | refine W.region ?_ | refine WL.nil ?_ | refine Post.next ?_ | refine Post.tail ?_ | refine W.cond_t rfl ?_ | refine W.cond_f rfl ?_ | refine W.block ?_ | refine W.skip ?_ | refine W.exit ?_ | refine W.ret ?_ | refine Post.block_exit ?_ | refine Post.block_other rfl ?_ | refine Post.then_exit ?_ | refine Post.then_ret ?_ | refine Post.block_ret ?_ | refine Post.block_normal ?_ | refine WL.lenS (tyS rfl) rfl rfl ?_ | refine WL.lenStr und9 rfl rfl ?_ | refine WL.fieldAddr (tyF rfl) rfl rfl ?_ | refine WL.not rfl rfl ?_ | refine WL.pick_t rfl rfl rfl ?_ | refine WL.pick_f rfl rfl rfl ?_ | refine WL.want rfl rfl ?_ | refine WL.skip rfl rfl rfl rfl ?_ | refine WL.extract rfl rfl rfl ?_)
  refine WL.makeFunc (args3 rfl rfl rfl) rfl ?_
  repeat (first | refine WL.move rfl rfl ?_ | refine WL.assign rfl rfl ?_ | refine W.seq ?_ | refine W.region ?_ | refine WL.nil ?_ | refine Post.next ?_ | refine Post.tail ?_ | refine W.cond_t rfl ?_ | refine W.cond_f rfl ?_ | refine W.block ?_ | refine W.skip ?_ | refine W.exit ?_ | refine W.ret ?_ | refine Post.block_exit ?_ | refine Post.block_other rfl ?_ | refine Post.then_exit ?_ | refine Post.then_ret ?_ | refine Post.block_ret ?_ | refine Post.block_normal ?_ | refine WL.lenS (tyS rfl) rfl rfl ?_ | refine WL.lenStr und9 rfl rfl ?_ | refine WL.fieldAddr (tyF rfl) rfl rfl ?_ | refine WL.not rfl rfl ?_ | refine WL.pick_t rfl rfl rfl ?_ | refine WL.pick_f rfl rfl rfl ?_ | refine WL.want rfl rfl ?_ | refine WL.skip rfl rfl rfl rfl ?_ | refine WL.extract rfl rfl rfl ?_)
  have u1 : Up w w1 := Up.grown hg1
  have u2 : Up w1 w2 := Up.grown hg2
  have u5 : Up w2 w5 := ((Up.grown hg3).trans (Up.grown hg4)).step hg5 (by intro j hj; cases hj; exact Nat.le_refl _)
  have U5 : Up w w5 := (u1.trans u2).trans u5
  have hM : KM w5 w2.heap.size w.heap.size w1.heap.size w3.heap.size vt vc T C [] := by
    refine ⟨hr5, hr1.up (u2.trans u5), hr2.up u5, hvt.up U5, hvc.up U5, hm4.kept hg5 (fun e => ?_), by simp [mget], mapne hvt (by omega), mapne hvc (by omega), by omega, by omega, by omega⟩
    have := Option.some.inj e; omega
  have hrw : w.heap.size ≤ w3.heap.size := by omega
  have hgw : w.heap.size ≤ w2.heap.size := by omega
  have hgwr : w2.heap.size < w3.heap.size := by omega
  have hgcr : w1.heap.size < w3.heap.size := by omega
  have hrw5 : w3.heap.size < w5.heap.size := by omega
  generalize w2.heap.size = gw at *
  generalize hgt : w.heap.size = gt at *
  generalize w1.heap.size = gc at *
  generalize w3.heap.size = rw_ at *
  clear u1 u2 u5 hr1 hr2 hr3 hm4 hr5 hg1 hg2 hg3 hg4 hg5 hz1 hz2 hz3 hz4 hz5
  refine WL.load (o' := 0) (tyP rfl) rfl (fun _ e => e) (hM.bc.cell rfl) rfl rfl ?_
  repeat (first | refine WL.move rfl rfl ?_ | refine WL.assign rfl rfl ?_ | refine W.seq ?_ | refine W.region ?_ | refine WL.nil ?_ | refine Post.next ?_ | refine Post.tail ?_ | refine W.cond_t rfl ?_ | refine W.cond_f rfl ?_ | refine W.block ?_ | refine W.skip ?_ | refine W.exit ?_ | refine W.ret ?_ | refine Post.block_exit ?_ | refine Post.block_other rfl ?_ | refine Post.then_exit ?_ | refine Post.then_ret ?_ | refine Post.block_ret ?_ | refine Post.block_normal ?_ | refine WL.lenS (tyS rfl) rfl rfl ?_ | refine WL.lenStr und9 rfl rfl ?_ | refine WL.fieldAddr (tyF rfl) rfl rfl ?_ | refine WL.not rfl rfl ?_ | refine WL.pick_t rfl rfl rfl ?_ | refine WL.pick_f rfl rfl rfl ?_ | refine WL.want rfl rfl ?_ | refine WL.skip rfl rfl rfl rfl ?_ | refine WL.extract rfl rfl rfl ?_)
  refine WL.range map49 rfl hM.mc rfl ?_
  intro w6 hg6 hz6 hi6
  refine ⟨trivial, ?_⟩
  have hM6 := hM.up (Up.grown hg6)
  have hvit := mapne hM.mc (Nat.le_refl _)
  have U6 : Up w w6 := U5.trans (Up.grown hg6)
  generalize hit1 : w5.heap.size = it1 at *
  repeat (first | refine WL.move rfl rfl ?_ | refine WL.assign rfl rfl ?_ | refine W.seq ?_ | refine W.region ?_ | refine WL.nil ?_ | refine Post.next ?_ | refine Post.tail ?_ | refine W.cond_t rfl ?_ | refine W.cond_f rfl ?_ | refine W.block ?_ | refine W.skip ?_ | refine W.exit ?_ | refine W.ret ?_ | refine Post.block_exit ?_ | refine Post.block_other rfl ?_ | refine Post.then_exit ?_ | refine Post.then_ret ?_ | refine Post.block_ret ?_ | refine Post.block_normal ?_ | refine WL.lenS (tyS rfl) rfl rfl ?_ | refine WL.lenStr und9 rfl rfl ?_ | refine WL.fieldAddr (tyF rfl) rfl rfl ?_ | refine WL.not rfl rfl ?_ | refine WL.pick_t rfl rfl rfl ?_ | refine WL.pick_f rfl rfl rfl ?_ | refine WL.want rfl rfl ?_ | refine WL.skip rfl rfl rfl rfl ?_ | refine WL.extract rfl rfl rfl ?_)
  refine W.loop2 (fun (_ : KV) (_ : KV) => [(2, ve), (3, .pointer (some ⟨gt, 0, none⟩)), (4, .pointer (some ⟨gc, 0, none⟩)), (7, .pointer (some ⟨gw, 0, none⟩)), (8, .func (.func 42) #[] #[.pointer (some ⟨gw, 0, none⟩), .pointer (some ⟨gt, 0, none⟩), .pointer (some ⟨gc, 0, none⟩)]), (24, .pointer (some ⟨it1, 0, none⟩))])
    (fun rem wm wr => KM wr gw gt gc rw_ vt vc T C wm ∧ KFin (InP T C) (fun k => k ∈ keys C ∧ k ∉ keys rem) (keys wm) ∧ (∃ cur, Iter wr it1 vc C rem cur) ∧ (keys rem).Nodup ∧ (∀ k ∈ keys rem, k ∈ keys C) ∧ Up w wr) (fun rem _ => rem.length) C []
    ⟨rfl, rfl, rfl, rfl, rfl, rfl, trivial⟩ ⟨hM6, (KFin.init _).congr (fun q => by simp), ⟨_, hi6⟩, hvc.kd, fun _ h => h, U6⟩ ?_
  clear hM6 hi6 hg6 hz6 U6
  rintro rem wm wr ⟨hm, hk, ⟨cur, hit⟩, hrn, hrs, hu⟩
  repeat (first | refine WL.move rfl rfl ?_ | refine WL.assign rfl rfl ?_ | refine W.seq ?_ | refine W.region ?_ | refine WL.nil ?_ | refine Post.next ?_ | refine Post.tail ?_ | refine W.cond_t rfl ?_ | refine W.cond_f rfl ?_ | refine W.block ?_ | refine W.skip ?_ | refine W.exit ?_ | refine W.ret ?_ | refine Post.block_exit ?_ | refine Post.block_other rfl ?_ | refine Post.then_exit ?_ | refine Post.then_ret ?_ | refine Post.block_ret ?_ | refine Post.block_normal ?_ | refine WL.lenS (tyS rfl) rfl rfl ?_ | refine WL.lenStr und9 rfl rfl ?_ | refine WL.fieldAddr (tyF rfl) rfl rfl ?_ | refine WL.not rfl rfl ?_ | refine WL.pick_t rfl rfl rfl ?_ | refine WL.pick_f rfl rfl rfl ?_ | refine WL.want rfl rfl ?_ | refine WL.skip rfl rfl rfl rfl ?_ | refine WL.extract rfl rfl rfl ?_)
  refine WL.next rfl hit hvit rfl ?_ ?_
  · rintro rfl _
    repeat (first | refine WL.move rfl rfl ?_ | refine WL.assign rfl rfl ?_ | refine W.seq ?_ | refine W.region ?_ | refine WL.nil ?_ | refine Post.next ?_ | refine Post.tail ?_ | refine W.cond_t rfl ?_ | refine W.cond_f rfl ?_ | refine W.block ?_ | refine W.skip ?_ | refine W.exit ?_ | refine W.ret ?_ | refine Post.block_exit ?_ | refine Post.block_other rfl ?_ | refine Post.then_exit ?_ | refine Post.then_ret ?_ | refine Post.block_ret ?_ | refine Post.block_normal ?_ | refine WL.lenS (tyS rfl) rfl rfl ?_ | refine WL.lenStr und9 rfl rfl ?_ | refine WL.fieldAddr (tyF rfl) rfl rfl ?_ | refine WL.not rfl rfl ?_ | refine WL.pick_t rfl rfl rfl ?_ | refine WL.pick_f rfl rfl rfl ?_ | refine WL.want rfl rfl ?_ | refine WL.skip rfl rfl rfl rfl ?_ | refine WL.extract rfl rfl rfl ?_)
    refine WL.load (o' := 0) (tyP rfl) rfl (fun _ e => e) (hm.bt.cell rfl) rfl rfl ?_
    repeat (first | refine WL.move rfl rfl ?_ | refine WL.assign rfl rfl ?_ | refine W.seq ?_ | refine W.region ?_ | refine WL.nil ?_ | refine Post.next ?_ | refine Post.tail ?_ | refine W.cond_t rfl ?_ | refine W.cond_f rfl ?_ | refine W.block ?_ | refine W.skip ?_ | refine W.exit ?_ | refine W.ret ?_ | refine Post.block_exit ?_ | refine Post.block_other rfl ?_ | refine Post.then_exit ?_ | refine Post.then_ret ?_ | refine Post.block_ret ?_ | refine Post.block_normal ?_ | refine WL.lenS (tyS rfl) rfl rfl ?_ | refine WL.lenStr und9 rfl rfl ?_ | refine WL.fieldAddr (tyF rfl) rfl rfl ?_ | refine WL.not rfl rfl ?_ | refine WL.pick_t rfl rfl rfl ?_ | refine WL.pick_f rfl rfl rfl ?_ | refine WL.want rfl rfl ?_ | refine WL.skip rfl rfl rfl rfl ?_ | refine WL.extract rfl rfl rfl ?_)
    refine WL.range map45 rfl hm.mt rfl ?_
    intro wa hga hza hia
    refine ⟨trivial, ?_⟩
    have hma := hm.up (Up.grown hga)
    have hvib := mapne hm.mt (Nat.le_refl _)
    have hua : Up w wa := hu.trans (Up.grown hga)
    have hsz := hu.size
    have hrwr : rw_ < wr.heap.size := hm.mw.lt_size
    have hgwl : gw < wr.heap.size := by omega
    have hgcl : gc < wr.heap.size := by omega
    generalize hit2 : wr.heap.size = it2 at *
    repeat (first | refine WL.move rfl rfl ?_ | refine WL.assign rfl rfl ?_ | refine W.seq ?_ | refine W.region ?_ | refine WL.nil ?_ | refine Post.next ?_ | refine Post.tail ?_ | refine W.cond_t rfl ?_ | refine W.cond_f rfl ?_ | refine W.block ?_ | refine W.skip ?_ | refine W.exit ?_ | refine W.ret ?_ | refine Post.block_exit ?_ | refine Post.block_other rfl ?_ | refine Post.then_exit ?_ | refine Post.then_ret ?_ | refine Post.block_ret ?_ | refine Post.block_normal ?_ | refine WL.lenS (tyS rfl) rfl rfl ?_ | refine WL.lenStr und9 rfl rfl ?_ | refine WL.fieldAddr (tyF rfl) rfl rfl ?_ | refine WL.not rfl rfl ?_ | refine WL.pick_t rfl rfl rfl ?_ | refine WL.pick_f rfl rfl rfl ?_ | refine WL.want rfl rfl ?_ | refine WL.skip rfl rfl rfl rfl ?_ | refine WL.extract rfl rfl rfl ?_)
    refine W.loop4 (fun (_ : KV) (_ : KV) (_ : List (ByteArray × ByteArray)) (rv : Value) => [(2, ve), (3, .pointer (some ⟨gt, 0, none⟩)), (4, .pointer (some ⟨gc, 0, none⟩)), (7, .pointer (some ⟨gw, 0, none⟩)), (8, .func (.func 42) #[] #[.pointer (some ⟨gw, 0, none⟩), .pointer (some ⟨gt, 0, none⟩), .pointer (some ⟨gc, 0, none⟩)]), (10, rv), (33, .pointer (some ⟨it2, 0, none⟩))])
      (fun rem wm rs rv wr => KM wr gw gt gc rw_ vt vc T C wm ∧ KFin (InP T C) (fun k => k ∈ keys C ∨ (k ∈ keys T ∧ k ∉ keys rem ∧ seedB T Te ent k = true)) (keys wm) ∧ (∃ cur, Iter wr it2 vt T rem cur) ∧ ((keys rem).Nodup ∧ (∀ x ∈ rem, x ∈ T)) ∧ RI T Te ent rem rs ∧ wr.ownsRow it2 88 2 rv rs.length (cells88 rs) ∧ rs.length + rem.length ≤ T.length ∧ Up w wr ∧ it2 ≤ wr.heap.size) (fun rem _ _ _ => rem.length) T wm [] (.slice none 0 0)
      ⟨rfl, rfl, rfl, rfl, rfl, rfl, rfl, trivial⟩ ⟨hma, hk.congr (fun q => ⟨fun h => ⟨h.elim id (fun h => absurd h.1 h.2.1), by simp [keys]⟩, fun h => .inl h.1⟩), ⟨_, hia⟩, ⟨hvt.kd, fun _ h => h⟩, ⟨fun p d => ⟨fun h => by simp at h, fun h => absurd h.1 h.2.1⟩⟩, World.ownsRow_nil _ _ _ _, by simp, hua, by omega⟩ ?_
    clear hk hm hma hit hia hga hza hua hu hrn hrs
    rintro rem wm rs rv wr ⟨hm, hk, ⟨cur, hit⟩, ⟨hrn, hrs⟩, hri, hro, hlen, hu, hsw⟩
    repeat (first | refine WL.move rfl rfl ?_ | refine WL.assign rfl rfl ?_ | refine W.seq ?_ | refine W.region ?_ | refine WL.nil ?_ | refine Post.next ?_ | refine Post.tail ?_ | refine W.cond_t rfl ?_ | refine W.cond_f rfl ?_ | refine W.block ?_ | refine W.skip ?_ | refine W.exit ?_ | refine W.ret ?_ | refine Post.block_exit ?_ | refine Post.block_other rfl ?_ | refine Post.then_exit ?_ | refine Post.then_ret ?_ | refine Post.block_ret ?_ | refine Post.block_normal ?_ | refine WL.lenS (tyS rfl) rfl rfl ?_ | refine WL.lenStr und9 rfl rfl ?_ | refine WL.fieldAddr (tyF rfl) rfl rfl ?_ | refine WL.not rfl rfl ?_ | refine WL.pick_t rfl rfl rfl ?_ | refine WL.pick_f rfl rfl rfl ?_ | refine WL.want rfl rfl ?_ | refine WL.skip rfl rfl rfl rfl ?_ | refine WL.extract rfl rfl rfl ?_)
    refine WL.next rfl hit hvib rfl ?_ ?_
    · rintro rfl _
      have hkF : KFin (InP T C) (seedD T C Te ent) (keys wm) := hk.congr (fun q => by simp [seedD, keys])
      repeat (first | refine WL.move rfl rfl ?_ | refine WL.assign rfl rfl ?_ | refine W.seq ?_ | refine W.region ?_ | refine WL.nil ?_ | refine Post.next ?_ | refine Post.tail ?_ | refine W.cond_t rfl ?_ | refine W.cond_f rfl ?_ | refine W.block ?_ | refine W.skip ?_ | refine W.exit ?_ | refine W.ret ?_ | refine Post.block_exit ?_ | refine Post.block_other rfl ?_ | refine Post.then_exit ?_ | refine Post.then_ret ?_ | refine Post.block_ret ?_ | refine Post.block_normal ?_ | refine WL.lenS (tyS rfl) rfl rfl ?_ | refine WL.lenStr und9 rfl rfl ?_ | refine WL.fieldAddr (tyF rfl) rfl rfl ?_ | refine WL.not rfl rfl ?_ | refine WL.pick_t rfl rfl rfl ?_ | refine WL.pick_f rfl rfl rfl ?_ | refine WL.want rfl rfl ?_ | refine WL.skip rfl rfl rfl rfl ?_ | refine WL.extract rfl rfl rfl ?_)
      refine WL.load (o' := 0) (tyP rfl) rfl (fun _ e => e) (hm.bw.cell rfl) rfl rfl ?_
      repeat (first | refine WL.move rfl rfl ?_ | refine WL.assign rfl rfl ?_ | refine W.seq ?_ | refine W.region ?_ | refine WL.nil ?_ | refine Post.next ?_ | refine Post.tail ?_ | refine W.cond_t rfl ?_ | refine W.cond_f rfl ?_ | refine W.block ?_ | refine W.skip ?_ | refine W.exit ?_ | refine W.ret ?_ | refine Post.block_exit ?_ | refine Post.block_other rfl ?_ | refine Post.then_exit ?_ | refine Post.then_ret ?_ | refine Post.block_ret ?_ | refine Post.block_normal ?_ | refine WL.lenS (tyS rfl) rfl rfl ?_ | refine WL.lenStr und9 rfl rfl ?_ | refine WL.fieldAddr (tyF rfl) rfl rfl ?_ | refine WL.not rfl rfl ?_ | refine WL.pick_t rfl rfl rfl ?_ | refine WL.pick_f rfl rfl rfl ?_ | refine WL.want rfl rfl ?_ | refine WL.skip rfl rfl rfl rfl ?_ | refine WL.extract rfl rfl rfl ?_)
      refine WL.lenMap map49 rfl (fun _ e => e) (.inr ⟨_, rfl, hm.mw⟩) rfl ?_
      refine WL.makeMapN map45 rfl rfl ?_
      intro wq hgq hzq hmq
      refine ⟨trivial, ?_⟩
      have huq : Up wr wq := Up.grown hgq
      repeat (first | refine WL.move rfl rfl ?_ | refine WL.assign rfl rfl ?_ | refine W.seq ?_ | refine W.region ?_ | refine WL.nil ?_ | refine Post.next ?_ | refine Post.tail ?_ | refine W.cond_t rfl ?_ | refine W.cond_f rfl ?_ | refine W.block ?_ | refine W.skip ?_ | refine W.exit ?_ | refine W.ret ?_ | refine Post.block_exit ?_ | refine Post.block_other rfl ?_ | refine Post.then_exit ?_ | refine Post.then_ret ?_ | refine Post.block_ret ?_ | refine Post.block_normal ?_ | refine WL.lenS (tyS rfl) rfl rfl ?_ | refine WL.lenStr und9 rfl rfl ?_ | refine WL.fieldAddr (tyF rfl) rfl rfl ?_ | refine WL.not rfl rfl ?_ | refine WL.pick_t rfl rfl rfl ?_ | refine WL.pick_f rfl rfl rfl ?_ | refine WL.want rfl rfl ?_ | refine WL.skip rfl rfl rfl rfl ?_ | refine WL.extract rfl rfl rfl ?_)
      refine WL.load (o' := 0) (tyP rfl) rfl (fun _ e => e) ((hm.up huq).bw.cell rfl) rfl rfl ?_
      repeat (first | refine WL.move rfl rfl ?_ | refine WL.assign rfl rfl ?_ | refine W.seq ?_ | refine W.region ?_ | refine WL.nil ?_ | refine Post.next ?_ | refine Post.tail ?_ | refine W.cond_t rfl ?_ | refine W.cond_f rfl ?_ | refine W.block ?_ | refine W.skip ?_ | refine W.exit ?_ | refine W.ret ?_ | refine Post.block_exit ?_ | refine Post.block_other rfl ?_ | refine Post.then_exit ?_ | refine Post.then_ret ?_ | refine Post.block_ret ?_ | refine Post.block_normal ?_ | refine WL.lenS (tyS rfl) rfl rfl ?_ | refine WL.lenStr und9 rfl rfl ?_ | refine WL.fieldAddr (tyF rfl) rfl rfl ?_ | refine WL.not rfl rfl ?_ | refine WL.pick_t rfl rfl rfl ?_ | refine WL.pick_f rfl rfl rfl ?_ | refine WL.want rfl rfl ?_ | refine WL.skip rfl rfl rfl rfl ?_ | refine WL.extract rfl rfl rfl ?_)
      refine WL.range map49 rfl (.inr ⟨_, rfl, (hm.up huq).mw⟩) rfl ?_
      intro wb hgb hzb hib
      refine ⟨trivial, ?_⟩
      have hvr : Value.map (some rw_) ≠ .map (some wq.heap.size) := mapne (.inr ⟨_, rfl, (hm.up huq).mw⟩) (Nat.le_refl _)
      have hub : Up wr wb := huq.trans (Up.grown hgb)
      have hmqb := hmq.up (Up.grown hgb)
      have hrpne : wr.heap.size ≠ wq.heap.size := by omega
      have hrple : wr.heap.size ≤ wq.heap.size := by omega
      generalize hrp : wr.heap.size = rp at *
      generalize hit3 : wq.heap.size = it3 at *
      repeat (first | refine WL.move rfl rfl ?_ | refine WL.assign rfl rfl ?_ | refine W.seq ?_ | refine W.region ?_ | refine WL.nil ?_ | refine Post.next ?_ | refine Post.tail ?_ | refine W.cond_t rfl ?_ | refine W.cond_f rfl ?_ | refine W.block ?_ | refine W.skip ?_ | refine W.exit ?_ | refine W.ret ?_ | refine Post.block_exit ?_ | refine Post.block_other rfl ?_ | refine Post.then_exit ?_ | refine Post.then_ret ?_ | refine Post.block_ret ?_ | refine Post.block_normal ?_ | refine WL.lenS (tyS rfl) rfl rfl ?_ | refine WL.lenStr und9 rfl rfl ?_ | refine WL.fieldAddr (tyF rfl) rfl rfl ?_ | refine WL.not rfl rfl ?_ | refine WL.pick_t rfl rfl rfl ?_ | refine WL.pick_f rfl rfl rfl ?_ | refine WL.want rfl rfl ?_ | refine WL.skip rfl rfl rfl rfl ?_ | refine WL.extract rfl rfl rfl ?_)
      refine W.loop2 (fun (_ : KV) (_ : KV) => [(3, .pointer (some ⟨gt, 0, none⟩)), (7, .pointer (some ⟨gw, 0, none⟩)), (6, .map (some rp)), (10, rv), (94, .pointer (some ⟨it3, 0, none⟩))])
        (fun rem pm wx => MapIs wx rp pm ∧ (∃ cur, Iter wx it3 (.map (some rw_)) wm rem cur) ∧ (keys rem).Nodup ∧ (∀ k ∈ keys rem, k ∈ keys wm) ∧ (∀ k, mget pm k = if k ∈ keys wm ∧ k ∉ keys rem then mget T k else none) ∧ Up wr wx) (fun rem _ => rem.length) wm []
        ⟨rfl, rfl, rfl, rfl, rfl, trivial⟩ ⟨hmqb, ⟨_, hib⟩, hm.mw.kd, fun _ h => h, fun k => by rw [if_neg (fun h => h.2 h.1)]; rfl, hub⟩ ?_
      clear hib hgb hzb hub hmqb hmq hgq hzq huq hit
      rintro rem pm wx ⟨hpm, ⟨cur, hit⟩, hrn3, hrs3, hpg, hux⟩
      repeat (first | refine WL.move rfl rfl ?_ | refine WL.assign rfl rfl ?_ | refine W.seq ?_ | refine W.region ?_ | refine WL.nil ?_ | refine Post.next ?_ | refine Post.tail ?_ | refine W.cond_t rfl ?_ | refine W.cond_f rfl ?_ | refine W.block ?_ | refine W.skip ?_ | refine W.exit ?_ | refine W.ret ?_ | refine Post.block_exit ?_ | refine Post.block_other rfl ?_ | refine Post.then_exit ?_ | refine Post.then_ret ?_ | refine Post.block_ret ?_ | refine Post.block_normal ?_ | refine WL.lenS (tyS rfl) rfl rfl ?_ | refine WL.lenStr und9 rfl rfl ?_ | refine WL.fieldAddr (tyF rfl) rfl rfl ?_ | refine WL.not rfl rfl ?_ | refine WL.pick_t rfl rfl rfl ?_ | refine WL.pick_f rfl rfl rfl ?_ | refine WL.want rfl rfl ?_ | refine WL.skip rfl rfl rfl rfl ?_ | refine WL.extract rfl rfl rfl ?_)
      refine WL.next rfl hit hvr rfl ?_ ?_
      · rintro rfl _
        have hpg : ∀ k, mget pm k = if k ∈ keys wm then mget T k else none := fun k => by rw [hpg]; simp [keys]
        obtain ⟨av, cv, rfl, hrd⟩ := own88_get hro
        repeat (first | refine WL.move rfl rfl ?_ | refine WL.assign rfl rfl ?_ | refine W.seq ?_ | refine W.region ?_ | refine WL.nil ?_ | refine Post.next ?_ | refine Post.tail ?_ | refine W.cond_t rfl ?_ | refine W.cond_f rfl ?_ | refine W.block ?_ | refine W.skip ?_ | refine W.exit ?_ | refine W.ret ?_ | refine Post.block_exit ?_ | refine Post.block_other rfl ?_ | refine Post.then_exit ?_ | refine Post.then_ret ?_ | refine Post.block_ret ?_ | refine Post.block_normal ?_ | refine WL.lenS (tyS rfl) rfl rfl ?_ | refine WL.lenStr und9 rfl rfl ?_ | refine WL.fieldAddr (tyF rfl) rfl rfl ?_ | refine WL.not rfl rfl ?_ | refine WL.pick_t rfl rfl rfl ?_ | refine WL.pick_f rfl rfl rfl ?_ | refine WL.want rfl rfl ?_ | refine WL.skip rfl rfl rfl rfl ?_ | refine WL.extract rfl rfl rfl ?_)
        refine W.loop2 (fun (i : Nat) (_ : KV) => [(3, .pointer (some ⟨gt, 0, none⟩)), (7, .pointer (some ⟨gw, 0, none⟩)), (6, .map (some rp)), (109, .slice av rs.length cv), (110, .int .i64 rs.length), (111, .int .i64 i)])
          (fun i pm wx => i ≤ rs.length ∧ MapIs wx rp pm ∧ (∀ k, k ∈ keys wm → mget pm k = mget T k) ∧ (∀ k, k ∉ keys wm → (∀ d, (k, d) ∈ rs.take i → d ∈ keys wm → ∃ u, mget pm k = some u ∧ EntIs w u (partE ent k)) ∧ ((∀ d, (k, d) ∈ rs.take i → d ∉ keys wm) → mget pm k = none)) ∧ Up wr wx) (fun i _ => rs.length - i) 0 pm
          ⟨rfl, rfl, rfl, rfl, rfl, rfl, trivial⟩ ⟨by omega, hpm, fun k hk => by rw [hpg, if_pos hk], fun k hk => ⟨fun d h => by simp at h, fun _ => by rw [hpg, if_neg hk]⟩, hux⟩ ?_
        clear hpm hpg hit hux
        rintro i pm wx ⟨hi, hpm, hpW, hpN, hux⟩
        repeat (first | refine WL.move rfl rfl ?_ | refine WL.assign rfl rfl ?_ | refine W.seq ?_ | refine W.region ?_ | refine WL.nil ?_ | refine Post.next ?_ | refine Post.tail ?_ | refine W.cond_t rfl ?_ | refine W.cond_f rfl ?_ | refine W.block ?_ | refine W.skip ?_ | refine W.exit ?_ | refine W.ret ?_ | refine Post.block_exit ?_ | refine Post.block_other rfl ?_ | refine Post.then_exit ?_ | refine Post.then_ret ?_ | refine Post.block_ret ?_ | refine Post.block_normal ?_ | refine WL.lenS (tyS rfl) rfl rfl ?_ | refine WL.lenStr und9 rfl rfl ?_ | refine WL.fieldAddr (tyF rfl) rfl rfl ?_ | refine WL.not rfl rfl ?_ | refine WL.pick_t rfl rfl rfl ?_ | refine WL.pick_f rfl rfl rfl ?_ | refine WL.want rfl rfl ?_ | refine WL.skip rfl rfl rfl rfl ?_ | refine WL.extract rfl rfl rfl ?_)
        refine WL.lss rfl rfl rfl (fun hlt => ?_) (fun hge => ?_)
        · have hi' : i < rs.length := by omega
          obtain ⟨g, e, hc1, hc2⟩ := hrd i hi'
          cases e
          have hmx := hm.up hux
          have hrel : (rs[i].1, rs[i].2) ∈ rs := List.getElem_mem hi'
          obtain ⟨hpT, _, hps, hpa⟩ := (hri.mem _ _).1 hrel
          obtain ⟨u, hu1⟩ := mget_some.2 hpT
          obtain ⟨t, hut, htv⟩ := hTM.ok _ _ hu1
          have htake : rs.take (i + 1) = rs.take i ++ [rs[i]] := List.take_succ_eq_append_getElem hi'
          have hmem' : ∀ k d, (k, d) ∈ rs.take (i + 1) ↔ (k, d) ∈ rs.take i ∨ (k = rs[i].1 ∧ d = rs[i].2) := fun k d => by
            rw [htake, List.mem_append, List.mem_singleton]
            exact ⟨fun h => h.imp id (fun h => by rw [← h]; exact ⟨rfl, rfl⟩), fun h => h.imp id (fun h => by rw [h.1, h.2])⟩
          repeat (first | refine WL.move rfl rfl ?_ | refine WL.assign rfl rfl ?_ | refine W.seq ?_ | refine W.region ?_ | refine WL.nil ?_ | refine Post.next ?_ | refine Post.tail ?_ | refine W.cond_t rfl ?_ | refine W.cond_f rfl ?_ | refine W.block ?_ | refine W.skip ?_ | refine W.exit ?_ | refine W.ret ?_ | refine Post.block_exit ?_ | refine Post.block_other rfl ?_ | refine Post.then_exit ?_ | refine Post.then_ret ?_ | refine Post.block_ret ?_ | refine Post.block_normal ?_ | refine WL.lenS (tyS rfl) rfl rfl ?_ | refine WL.lenStr und9 rfl rfl ?_ | refine WL.fieldAddr (tyF rfl) rfl rfl ?_ | refine WL.not rfl rfl ?_ | refine WL.pick_t rfl rfl rfl ?_ | refine WL.pick_f rfl rfl rfl ?_ | refine WL.want rfl rfl ?_ | refine WL.skip rfl rfl rfl rfl ?_ | refine WL.extract rfl rfl rfl ?_ | refine WL.addI rfl rfl (by omega) rfl ?_ | refine WL.subI rfl rfl (by omega) rfl ?_ | refine WL.indexS (tyS rfl) rfl rfl (by omega) rfl ?_ | refine WL.indexA (tyR rfl) rfl rfl (by omega) rfl ?_)
          refine WL.loadAgg (cs := [.string rs[i].1, .string rs[i].2]) (o' := i * 2) (tyA rfl) rfl rfl (fun _ e => e) (agg2 (hux.cell hc1) (hux.cell hc2)) (by first | omega | (simp; done) | (simp; omega)) rfl ?_
          refine WL.alloc zero88 rfl ?_
          intro wy hgy hzy hry
          refine ⟨trivial, ?_⟩
          refine WL.storeAgg (vs := [.string rs[i].1, .string rs[i].2]) (o' := 0) (tyA rfl) rfl rfl rfl (by simp [Value.oneCell']) hry rfl (by simp) ?_
          intro wz hgz hzz hrz
          refine ⟨trivial, ?_⟩
          rw [spl_all (by simp)] at hrz
          have huz : Up wx wz := (Up.grown hgy).step hgz (by intro j hj; cases hj; exact Nat.le_refl _)
          have hmz := hmx.up huz
          have hpz := hpm.up huz
          have skip : (rs[i].2 ∈ keys wm → rs[i].1 ∈ keys wm) → (∀ k, k ∉ keys wm → (∀ d, (k, d) ∈ rs.take (i + 1) → d ∈ keys wm → ∃ u, mget pm k = some u ∧ EntIs w u (partE ent k)) ∧ ((∀ d, (k, d) ∈ rs.take (i + 1) → d ∉ keys wm) → mget pm k = none)) := by
            intro hsk k hk
            refine ⟨fun d hd hdW => ?_, fun h => (hpN k hk).2 (fun d hd => h d ((hmem' k d).2 (.inl hd)))⟩
            rcases (hmem' k d).1 hd with hd | ⟨rfl, rfl⟩
            · exact (hpN k hk).1 d hd hdW
            · exact absurd (hsk hdW) hk
          repeat (first | refine WL.move rfl rfl ?_ | refine WL.assign rfl rfl ?_ | refine W.seq ?_ | refine W.region ?_ | refine WL.nil ?_ | refine Post.next ?_ | refine Post.tail ?_ | refine W.cond_t rfl ?_ | refine W.cond_f rfl ?_ | refine W.block ?_ | refine W.skip ?_ | refine W.exit ?_ | refine W.ret ?_ | refine Post.block_exit ?_ | refine Post.block_other rfl ?_ | refine Post.then_exit ?_ | refine Post.then_ret ?_ | refine Post.block_ret ?_ | refine Post.block_normal ?_ | refine WL.lenS (tyS rfl) rfl rfl ?_ | refine WL.lenStr und9 rfl rfl ?_ | refine WL.fieldAddr (tyF rfl) rfl rfl ?_ | refine WL.not rfl rfl ?_ | refine WL.pick_t rfl rfl rfl ?_ | refine WL.pick_f rfl rfl rfl ?_ | refine WL.want rfl rfl ?_ | refine WL.skip rfl rfl rfl rfl ?_ | refine WL.extract rfl rfl rfl ?_)
          refine WL.load (o' := 0) (tyP rfl) rfl (fun _ e => e) (hmz.bw.cell rfl) rfl rfl ?_
          repeat (first | refine WL.move rfl rfl ?_ | refine WL.assign rfl rfl ?_ | refine W.seq ?_ | refine W.region ?_ | refine WL.nil ?_ | refine Post.next ?_ | refine Post.tail ?_ | refine W.cond_t rfl ?_ | refine W.cond_f rfl ?_ | refine W.block ?_ | refine W.skip ?_ | refine W.exit ?_ | refine W.ret ?_ | refine Post.block_exit ?_ | refine Post.block_other rfl ?_ | refine Post.then_exit ?_ | refine Post.then_ret ?_ | refine Post.block_ret ?_ | refine Post.block_normal ?_ | refine WL.lenS (tyS rfl) rfl rfl ?_ | refine WL.lenStr und9 rfl rfl ?_ | refine WL.fieldAddr (tyF rfl) rfl rfl ?_ | refine WL.not rfl rfl ?_ | refine WL.pick_t rfl rfl rfl ?_ | refine WL.pick_f rfl rfl rfl ?_ | refine WL.want rfl rfl ?_ | refine WL.skip rfl rfl rfl rfl ?_ | refine WL.extract rfl rfl rfl ?_)
          refine WL.load (o' := 1) (tyP rfl) rfl (fun _ e => e) (hrz.cell rfl) (by first | omega | (simp; done) | (simp; omega)) rfl ?_
          repeat (first | refine WL.move rfl rfl ?_ | refine WL.assign rfl rfl ?_ | refine W.seq ?_ | refine W.region ?_ | refine WL.nil ?_ | refine Post.next ?_ | refine Post.tail ?_ | refine W.cond_t rfl ?_ | refine W.cond_f rfl ?_ | refine W.block ?_ | refine W.skip ?_ | refine W.exit ?_ | refine W.ret ?_ | refine Post.block_exit ?_ | refine Post.block_other rfl ?_ | refine Post.then_exit ?_ | refine Post.then_ret ?_ | refine Post.block_ret ?_ | refine Post.block_normal ?_ | refine WL.lenS (tyS rfl) rfl rfl ?_ | refine WL.lenStr und9 rfl rfl ?_ | refine WL.fieldAddr (tyF rfl) rfl rfl ?_ | refine WL.not rfl rfl ?_ | refine WL.pick_t rfl rfl rfl ?_ | refine WL.pick_f rfl rfl rfl ?_ | refine WL.want rfl rfl ?_ | refine WL.skip rfl rfl rfl rfl ?_ | refine WL.extract rfl rfl rfl ?_)
          by_cases hdW : rs[i].2 ∈ keys wm
          · refine WL.look1v map49 rfl rfl (fun _ e => e) (.inr ⟨_, rfl, hmz.mw⟩) (hmz.get_in hdW) rfl ?_
            repeat (first | refine WL.move rfl rfl ?_ | refine WL.assign rfl rfl ?_ | refine W.seq ?_ | refine W.region ?_ | refine WL.nil ?_ | refine Post.next ?_ | refine Post.tail ?_ | refine W.cond_t rfl ?_ | refine W.cond_f rfl ?_ | refine W.block ?_ | refine W.skip ?_ | refine W.exit ?_ | refine W.ret ?_ | refine Post.block_exit ?_ | refine Post.block_other rfl ?_ | refine Post.then_exit ?_ | refine Post.then_ret ?_ | refine Post.block_ret ?_ | refine Post.block_normal ?_ | refine WL.lenS (tyS rfl) rfl rfl ?_ | refine WL.lenStr und9 rfl rfl ?_ | refine WL.fieldAddr (tyF rfl) rfl rfl ?_ | refine WL.not rfl rfl ?_ | refine WL.pick_t rfl rfl rfl ?_ | refine WL.pick_f rfl rfl rfl ?_ | refine WL.want rfl rfl ?_ | refine WL.skip rfl rfl rfl rfl ?_ | refine WL.extract rfl rfl rfl ?_)
            refine WL.load (o' := 0) (tyP rfl) rfl (fun _ e => e) (hmz.bw.cell rfl) rfl rfl ?_
            repeat (first | refine WL.move rfl rfl ?_ | refine WL.assign rfl rfl ?_ | refine W.seq ?_ | refine W.region ?_ | refine WL.nil ?_ | refine Post.next ?_ | refine Post.tail ?_ | refine W.cond_t rfl ?_ | refine W.cond_f rfl ?_ | refine W.block ?_ | refine W.skip ?_ | refine W.exit ?_ | refine W.ret ?_ | refine Post.block_exit ?_ | refine Post.block_other rfl ?_ | refine Post.then_exit ?_ | refine Post.then_ret ?_ | refine Post.block_ret ?_ | refine Post.block_normal ?_ | refine WL.lenS (tyS rfl) rfl rfl ?_ | refine WL.lenStr und9 rfl rfl ?_ | refine WL.fieldAddr (tyF rfl) rfl rfl ?_ | refine WL.not rfl rfl ?_ | refine WL.pick_t rfl rfl rfl ?_ | refine WL.pick_f rfl rfl rfl ?_ | refine WL.want rfl rfl ?_ | refine WL.skip rfl rfl rfl rfl ?_ | refine WL.extract rfl rfl rfl ?_)
            refine WL.load (o' := 0) (tyP rfl) rfl (fun _ e => e) (hrz.cell rfl) (by first | omega | (simp; done) | (simp; omega)) rfl ?_
            repeat (first | refine WL.move rfl rfl ?_ | refine WL.assign rfl rfl ?_ | refine W.seq ?_ | refine W.region ?_ | refine WL.nil ?_ | refine Post.next ?_ | refine Post.tail ?_ | refine W.cond_t rfl ?_ | refine W.cond_f rfl ?_ | refine W.block ?_ | refine W.skip ?_ | refine W.exit ?_ | refine W.ret ?_ | refine Post.block_exit ?_ | refine Post.block_other rfl ?_ | refine Post.then_exit ?_ | refine Post.then_ret ?_ | refine Post.block_ret ?_ | refine Post.block_normal ?_ | refine WL.lenS (tyS rfl) rfl rfl ?_ | refine WL.lenStr und9 rfl rfl ?_ | refine WL.fieldAddr (tyF rfl) rfl rfl ?_ | refine WL.not rfl rfl ?_ | refine WL.pick_t rfl rfl rfl ?_ | refine WL.pick_f rfl rfl rfl ?_ | refine WL.want rfl rfl ?_ | refine WL.skip rfl rfl rfl rfl ?_ | refine WL.extract rfl rfl rfl ?_)
            by_cases hpWi : rs[i].1 ∈ keys wm
            · refine WL.look1v map49 rfl rfl (fun _ e => e) (.inr ⟨_, rfl, hmz.mw⟩) (hmz.get_in hpWi) rfl ?_
              repeat (first | refine WL.move rfl rfl ?_ | refine WL.assign rfl rfl ?_ | refine W.seq ?_ | refine W.region ?_ | refine WL.nil ?_ | refine Post.next ?_ | refine Post.tail ?_ | refine W.cond_t rfl ?_ | refine W.cond_f rfl ?_ | refine W.block ?_ | refine W.skip ?_ | refine W.exit ?_ | refine W.ret ?_ | refine Post.block_exit ?_ | refine Post.block_other rfl ?_ | refine Post.then_exit ?_ | refine Post.then_ret ?_ | refine Post.block_ret ?_ | refine Post.block_normal ?_ | refine WL.lenS (tyS rfl) rfl rfl ?_ | refine WL.lenStr und9 rfl rfl ?_ | refine WL.fieldAddr (tyF rfl) rfl rfl ?_ | refine WL.not rfl rfl ?_ | refine WL.pick_t rfl rfl rfl ?_ | refine WL.pick_f rfl rfl rfl ?_ | refine WL.want rfl rfl ?_ | refine WL.skip rfl rfl rfl rfl ?_ | refine WL.extract rfl rfl rfl ?_ | refine WL.addI rfl rfl (by omega) rfl ?_ | refine WL.subI rfl rfl (by omega) rfl ?_ | refine WL.indexS (tyS rfl) rfl rfl (by omega) rfl ?_ | refine WL.indexA (tyR rfl) rfl rfl (by omega) rfl ?_)
              exact Post.round2 (i + 1) pm ⟨rfl, rfl, rfl, rfl, rfl, (by first | rfl | (simp [look]; done) | (simp [look]; omega)), trivial⟩ ⟨by omega, hpz, hpW, skip (fun _ => hpWi), hux.trans huz⟩ (by first | omega | (simp; done) | (simp; omega))
            · refine WL.look1v map49 rfl rfl (fun _ e => e) (.inr ⟨_, rfl, hmz.mw⟩) (getD_out hpWi) rfl ?_
              repeat (first | refine WL.move rfl rfl ?_ | refine WL.assign rfl rfl ?_ | refine W.seq ?_ | refine W.region ?_ | refine WL.nil ?_ | refine Post.next ?_ | refine Post.tail ?_ | refine W.cond_t rfl ?_ | refine W.cond_f rfl ?_ | refine W.block ?_ | refine W.skip ?_ | refine W.exit ?_ | refine W.ret ?_ | refine Post.block_exit ?_ | refine Post.block_other rfl ?_ | refine Post.then_exit ?_ | refine Post.then_ret ?_ | refine Post.block_ret ?_ | refine Post.block_normal ?_ | refine WL.lenS (tyS rfl) rfl rfl ?_ | refine WL.lenStr und9 rfl rfl ?_ | refine WL.fieldAddr (tyF rfl) rfl rfl ?_ | refine WL.not rfl rfl ?_ | refine WL.pick_t rfl rfl rfl ?_ | refine WL.pick_f rfl rfl rfl ?_ | refine WL.want rfl rfl ?_ | refine WL.skip rfl rfl rfl rfl ?_ | refine WL.extract rfl rfl rfl ?_)
              refine WL.load (o' := 0) (tyP rfl) rfl (fun _ e => e) (hmz.bt.cell rfl) rfl rfl ?_
              repeat (first | refine WL.move rfl rfl ?_ | refine WL.assign rfl rfl ?_ | refine W.seq ?_ | refine W.region ?_ | refine WL.nil ?_ | refine Post.next ?_ | refine Post.tail ?_ | refine W.cond_t rfl ?_ | refine W.cond_f rfl ?_ | refine W.block ?_ | refine W.skip ?_ | refine W.exit ?_ | refine W.ret ?_ | refine Post.block_exit ?_ | refine Post.block_other rfl ?_ | refine Post.then_exit ?_ | refine Post.then_ret ?_ | refine Post.block_ret ?_ | refine Post.block_normal ?_ | refine WL.lenS (tyS rfl) rfl rfl ?_ | refine WL.lenStr und9 rfl rfl ?_ | refine WL.fieldAddr (tyF rfl) rfl rfl ?_ | refine WL.not rfl rfl ?_ | refine WL.pick_t rfl rfl rfl ?_ | refine WL.pick_f rfl rfl rfl ?_ | refine WL.want rfl rfl ?_ | refine WL.skip rfl rfl rfl rfl ?_ | refine WL.extract rfl rfl rfl ?_)
              refine WL.load (o' := 0) (tyP rfl) rfl (fun _ e => e) (hrz.cell rfl) (by first | omega | (simp; done) | (simp; omega)) rfl ?_
              repeat (first | refine WL.move rfl rfl ?_ | refine WL.assign rfl rfl ?_ | refine W.seq ?_ | refine W.region ?_ | refine WL.nil ?_ | refine Post.next ?_ | refine Post.tail ?_ | refine W.cond_t rfl ?_ | refine W.cond_f rfl ?_ | refine W.block ?_ | refine W.skip ?_ | refine W.exit ?_ | refine W.ret ?_ | refine Post.block_exit ?_ | refine Post.block_other rfl ?_ | refine Post.then_exit ?_ | refine Post.then_ret ?_ | refine Post.block_ret ?_ | refine Post.block_normal ?_ | refine WL.lenS (tyS rfl) rfl rfl ?_ | refine WL.lenStr und9 rfl rfl ?_ | refine WL.fieldAddr (tyF rfl) rfl rfl ?_ | refine WL.not rfl rfl ?_ | refine WL.pick_t rfl rfl rfl ?_ | refine WL.pick_f rfl rfl rfl ?_ | refine WL.want rfl rfl ?_ | refine WL.skip rfl rfl rfl rfl ?_ | refine WL.extract rfl rfl rfl ?_)
              have hgd : (mget T rs[i].1).getD (.agg zE.toArray) = .agg (t.cells (ent rs[i].1)).toArray := by rw [hu1, hut]; rfl
              refine WL.look1v map45 rfl rfl (fun _ e => e) hmz.mt hgd rfl ?_
              refine WL.alloc zero68 rfl ?_
              intro wf hgf hzf hrf
              refine ⟨trivial, ?_⟩
              refine WL.storeAgg (vs := t.cells (ent rs[i].1)) (o' := 0) (tyA rfl) rfl rfl rfl htv.one hrf rfl (by simp [TE.cells, zE]) ?_
              intro wg hgg hzg hrg
              refine ⟨trivial, ?_⟩
              rw [spl_all (by simp [TE.cells, zE])] at hrg
              have hug : Up wz wg := (Up.grown hgf).step hgg (by intro j hj; cases hj; exact Nat.le_refl _)
              have hfin : ∀ (u : Value), EntIs w u (partE ent rs[i].1) → ((∀ k, k ∈ keys wm → mget (mset pm rs[i].1 u) k = mget T k) ∧ (∀ k, k ∉ keys wm → (∀ d, (k, d) ∈ rs.take (i + 1) → d ∈ keys wm → ∃ u', mget (mset pm rs[i].1 u) k = some u' ∧ EntIs w u' (partE ent k)) ∧ ((∀ d, (k, d) ∈ rs.take (i + 1) → d ∉ keys wm) → mget (mset pm rs[i].1 u) k = none))) := by
                intro u hu
                refine ⟨fun k hk => ?_, fun k hk => ⟨fun d hd hdW' => ?_, fun h => ?_⟩⟩
                · rw [mget_mset, if_neg (fun e => hpWi (by rw [e]; exact hk))]; exact hpW k hk
                · rw [mget_mset]
                  by_cases e : rs[i].1 = k
                  · subst e; exact ⟨u, by simp, hu⟩
                  · rw [if_neg e]
                    rcases (hmem' k d).1 hd with hd | ⟨h, _⟩
                    · exact (hpN k hk).1 d hd hdW'
                    · exact absurd h.symm e
                · have e : rs[i].1 ≠ k := fun e => h _ ((hmem' k rs[i].2).2 (.inr ⟨e.symm, rfl⟩)) hdW
                  rw [mget_mset, if_neg e]
                  exact (hpN k hk).2 (fun d hd => h d ((hmem' k d).2 (.inl hd)))
              repeat (first | refine WL.move rfl rfl ?_ | refine WL.assign rfl rfl ?_ | refine W.region ?_ | refine WL.nil ?_ | refine Post.next ?_ | refine Post.tail ?_ | refine W.cond_t rfl ?_ | refine W.cond_f rfl ?_ | refine W.block ?_ | refine W.skip ?_ | refine W.exit ?_ | refine W.ret ?_ | refine Post.block_exit ?_ | refine Post.block_other rfl ?_ | refine Post.then_exit ?_ | refine Post.then_ret ?_ | refine Post.block_ret ?_ | refine Post.block_normal ?_ | refine WL.lenS (tyS rfl) rfl rfl ?_ | refine WL.lenStr und9 rfl rfl ?_ | refine WL.fieldAddr (tyF rfl) rfl rfl ?_ | refine WL.not rfl rfl ?_ | refine WL.pick_t rfl rfl rfl ?_ | refine WL.pick_f rfl rfl rfl ?_ | refine WL.want rfl rfl ?_ | refine WL.skip rfl rfl rfl rfl ?_ | refine WL.extract rfl rfl rfl ?_)
              refine W.seq_join [(3, .pointer (some ⟨gt, 0, none⟩)), (7, .pointer (some ⟨gw, 0, none⟩)), (6, .map (some rp)), (109, .slice (some ⟨g, 0, none⟩) rs.length cv), (110, .int .i64 rs.length), (111, .int .i64 i), (19, .pointer (some ⟨wx.heap.size, 0, none⟩)), (20, .pointer (some ⟨wz.heap.size, 0, none⟩))]
                (fun w' => Up wz w' ∧ ∃ t' e', Row w' wz.heap.size (TE.cells t' e') 68 ∧ EntIs w (.agg (TE.cells t' e').toArray) (partE ent rs[i].1)) ?_ ?_
              · repeat (first | refine WL.move rfl rfl ?_ | refine WL.assign rfl rfl ?_ | refine W.seq ?_ | refine W.region ?_ | refine WL.nil ?_ | refine Post.next ?_ | refine Post.tail ?_ | refine W.cond_t rfl ?_ | refine W.cond_f rfl ?_ | refine W.block ?_ | refine W.skip ?_ | refine W.exit ?_ | refine W.ret ?_ | refine Post.block_exit ?_ | refine Post.block_other rfl ?_ | refine Post.then_exit ?_ | refine Post.then_ret ?_ | refine Post.block_ret ?_ | refine Post.block_normal ?_ | refine WL.lenS (tyS rfl) rfl rfl ?_ | refine WL.lenStr und9 rfl rfl ?_ | refine WL.fieldAddr (tyF rfl) rfl rfl ?_ | refine WL.not rfl rfl ?_ | refine WL.pick_t rfl rfl rfl ?_ | refine WL.pick_f rfl rfl rfl ?_ | refine WL.want rfl rfl ?_ | refine WL.skip rfl rfl rfl rfl ?_ | refine WL.extract rfl rfl rfl ?_)
                refine WL.load (o' := 0) (tyP rfl) rfl (fun _ e => e) (hrg.cell rfl) (by first | omega | (simp; done) | (simp; omega)) rfl ?_
                repeat (first | refine WL.move rfl rfl ?_ | refine WL.assign rfl rfl ?_ | refine W.seq ?_ | refine W.region ?_ | refine WL.nil ?_ | refine Post.next ?_ | refine Post.tail ?_ | refine W.cond_t rfl ?_ | refine W.cond_f rfl ?_ | refine W.block ?_ | refine W.skip ?_ | refine W.exit ?_ | refine W.ret ?_ | refine Post.block_exit ?_ | refine Post.block_other rfl ?_ | refine Post.then_exit ?_ | refine Post.then_ret ?_ | refine Post.block_ret ?_ | refine Post.block_normal ?_ | refine WL.lenS (tyS rfl) rfl rfl ?_ | refine WL.lenStr und9 rfl rfl ?_ | refine WL.fieldAddr (tyF rfl) rfl rfl ?_ | refine WL.not rfl rfl ?_ | refine WL.pick_t rfl rfl rfl ?_ | refine WL.pick_f rfl rfl rfl ?_ | refine WL.want rfl rfl ?_ | refine WL.skip rfl rfl rfl rfl ?_ | refine WL.extract rfl rfl rfl ?_)
                refine WL.call _ (fnT rfl) (args1 rfl) (leaves_c _ (ent rs[i].1).kind) (by rintro e w' ⟨rfl, _⟩; exact ⟨_, rfl⟩) rfl ?_
                rintro v wh ⟨hv, rfl⟩
                cases hv
                refine ⟨trivial, ?_⟩
                cases hkd : decide ((ent rs[i].1).kind = 1 ∨ (ent rs[i].1).kind = 2)
                · have hkd : ¬ ((ent rs[i].1).kind = 1 ∨ (ent rs[i].1).kind = 2) := of_decide_eq_false hkd
                  obtain ⟨aM, cM, hMv, heM, hcM⟩ := htv.M.1
                  have hM2 : (t.cells (ent rs[i].1))[2]? = some (.slice aM (ent rs[i].1).xM.length cM) := congrArg some hMv
                  repeat (first | refine WL.move rfl rfl ?_ | refine WL.assign rfl rfl ?_ | refine W.seq ?_ | refine W.region ?_ | refine WL.nil ?_ | refine Post.next ?_ | refine Post.tail ?_ | refine W.cond_t rfl ?_ | refine W.cond_f rfl ?_ | refine W.block ?_ | refine W.skip ?_ | refine W.exit ?_ | refine W.ret ?_ | refine Post.block_exit ?_ | refine Post.block_other rfl ?_ | refine Post.then_exit ?_ | refine Post.then_ret ?_ | refine Post.block_ret ?_ | refine Post.block_normal ?_ | refine WL.lenS (tyS rfl) rfl rfl ?_ | refine WL.lenStr und9 rfl rfl ?_ | refine WL.fieldAddr (tyF rfl) rfl rfl ?_ | refine WL.not rfl rfl ?_ | refine WL.pick_t rfl rfl rfl ?_ | refine WL.pick_f rfl rfl rfl ?_ | refine WL.want rfl rfl ?_ | refine WL.skip rfl rfl rfl rfl ?_ | refine WL.extract rfl rfl rfl ?_)
                  refine WL.load (o' := 2) (tyP rfl) rfl (fun _ e => e) (hrg.cell hM2) (by first | omega | (simp; done) | (simp; omega)) rfl ?_
                  refine WL.build (parts2 rfl rfl) (build68b (ent rs[i].1) _ _ _) rfl ?_
                  have hbare : EntIs w _ (bareE (ent rs[i].1)) := bare_is (t := .slice aM (ent rs[i].1).xM.length cM) (e := ent rs[i].1) ⟨aM, cM, rfl, heM, hcM⟩ (by rw [← htv.M.2, hMv])
                  refine WL.storeAgg (vs := TE.cells ⟨.slice none 0 0, .slice aM (ent rs[i].1).xM.length cM, .slice none 0 0, .slice none 0 0, .slice none 0 0, .slice none 0 0, .slice none 0 0, .slice none 0 0⟩ (bareE (ent rs[i].1))) (o' := 0) (tyA rfl) rfl rfl rfl (by simp [TE.cells, Value.oneCell']) hrg rfl (by simp [TE.cells]) ?_
                  intro wh hgh hzh hrh
                  refine ⟨trivial, ?_⟩
                  rw [spl_all (by simp [TE.cells])] at hrh
                  repeat (first | refine WL.move rfl rfl ?_ | refine WL.assign rfl rfl ?_ | refine W.seq ?_ | refine W.region ?_ | refine WL.nil ?_ | refine Post.next ?_ | refine Post.tail ?_ | refine W.cond_t rfl ?_ | refine W.cond_f rfl ?_ | refine W.block ?_ | refine W.skip ?_ | refine W.exit ?_ | refine W.ret ?_ | refine Post.block_exit ?_ | refine Post.block_other rfl ?_ | refine Post.then_exit ?_ | refine Post.then_ret ?_ | refine Post.block_ret ?_ | refine Post.block_normal ?_ | refine WL.lenS (tyS rfl) rfl rfl ?_ | refine WL.lenStr und9 rfl rfl ?_ | refine WL.fieldAddr (tyF rfl) rfl rfl ?_ | refine WL.not rfl rfl ?_ | refine WL.pick_t rfl rfl rfl ?_ | refine WL.pick_f rfl rfl rfl ?_ | refine WL.want rfl rfl ?_ | refine WL.skip rfl rfl rfl rfl ?_ | refine WL.extract rfl rfl rfl ?_)
                  refine Post.join ⟨rfl, rfl, rfl, rfl, rfl, rfl, rfl, rfl, trivial⟩ ⟨hug.step hgh (by intro j hj; cases hj; exact Nat.le_refl _), _, _, hrh, ?_⟩
                  rw [partE, if_neg hkd]
                  exact hbare
                · have hkd : (ent rs[i].1).kind = 1 ∨ (ent rs[i].1).kind = 2 := of_decide_eq_true hkd
                  repeat (first | refine WL.move rfl rfl ?_ | refine WL.assign rfl rfl ?_ | refine W.seq ?_ | refine W.region ?_ | refine WL.nil ?_ | refine Post.next ?_ | refine Post.tail ?_ | refine W.cond_t rfl ?_ | refine W.cond_f rfl ?_ | refine W.block ?_ | refine W.skip ?_ | refine W.exit ?_ | refine W.ret ?_ | refine Post.block_exit ?_ | refine Post.block_other rfl ?_ | refine Post.then_exit ?_ | refine Post.then_ret ?_ | refine Post.block_ret ?_ | refine Post.block_normal ?_ | refine WL.lenS (tyS rfl) rfl rfl ?_ | refine WL.lenStr und9 rfl rfl ?_ | refine WL.fieldAddr (tyF rfl) rfl rfl ?_ | refine WL.not rfl rfl ?_ | refine WL.pick_t rfl rfl rfl ?_ | refine WL.pick_f rfl rfl rfl ?_ | refine WL.want rfl rfl ?_ | refine WL.skip rfl rfl rfl rfl ?_ | refine WL.extract rfl rfl rfl ?_)
                  refine Post.join ⟨rfl, rfl, rfl, rfl, rfl, rfl, rfl, rfl, trivial⟩ ⟨hug, _, _, hrg, ?_⟩
                  rw [partE, if_pos hkd]
                  exact ⟨t, rfl, htv⟩
              · rintro wh ⟨huh, t', e', hrh, hEn⟩
                have hrzh := hrz.up huh
                repeat (first | refine WL.move rfl rfl ?_ | refine WL.assign rfl rfl ?_ | refine W.seq ?_ | refine W.region ?_ | refine WL.nil ?_ | refine Post.next ?_ | refine Post.tail ?_ | refine W.cond_t rfl ?_ | refine W.cond_f rfl ?_ | refine W.block ?_ | refine W.skip ?_ | refine W.exit ?_ | refine W.ret ?_ | refine Post.block_exit ?_ | refine Post.block_other rfl ?_ | refine Post.then_exit ?_ | refine Post.then_ret ?_ | refine Post.block_ret ?_ | refine Post.block_normal ?_ | refine WL.lenS (tyS rfl) rfl rfl ?_ | refine WL.lenStr und9 rfl rfl ?_ | refine WL.fieldAddr (tyF rfl) rfl rfl ?_ | refine WL.not rfl rfl ?_ | refine WL.pick_t rfl rfl rfl ?_ | refine WL.pick_f rfl rfl rfl ?_ | refine WL.want rfl rfl ?_ | refine WL.skip rfl rfl rfl rfl ?_ | refine WL.extract rfl rfl rfl ?_)
                refine WL.load (o' := 0) (tyP rfl) rfl (fun _ e => e) (hrzh.cell rfl) (by first | omega | (simp; done) | (simp; omega)) rfl ?_
                repeat (first | refine WL.move rfl rfl ?_ | refine WL.assign rfl rfl ?_ | refine W.seq ?_ | refine W.region ?_ | refine WL.nil ?_ | refine Post.next ?_ | refine Post.tail ?_ | refine W.cond_t rfl ?_ | refine W.cond_f rfl ?_ | refine W.block ?_ | refine W.skip ?_ | refine W.exit ?_ | refine W.ret ?_ | refine Post.block_exit ?_ | refine Post.block_other rfl ?_ | refine Post.then_exit ?_ | refine Post.then_ret ?_ | refine Post.block_ret ?_ | refine Post.block_normal ?_ | refine WL.lenS (tyS rfl) rfl rfl ?_ | refine WL.lenStr und9 rfl rfl ?_ | refine WL.fieldAddr (tyF rfl) rfl rfl ?_ | refine WL.not rfl rfl ?_ | refine WL.pick_t rfl rfl rfl ?_ | refine WL.pick_f rfl rfl rfl ?_ | refine WL.want rfl rfl ?_ | refine WL.skip rfl rfl rfl rfl ?_ | refine WL.extract rfl rfl rfl ?_)
                refine WL.loadAgg (cs := TE.cells t' e') (o' := 0) (tyA rfl) rfl rfl (fun _ e => e) (fun j v hj => by rw [Nat.zero_add]; exact hrh.cell hj) (by first | omega | (simp; done) | (simp; omega)) rfl ?_
                refine WL.mapSet map45 rfl rfl rfl (hpz.up huh) ?_
                intro wi hgi hzi hmi
                refine ⟨trivial, ?_⟩
                repeat (first | refine WL.move rfl rfl ?_ | refine WL.assign rfl rfl ?_ | refine W.seq ?_ | refine W.region ?_ | refine WL.nil ?_ | refine Post.next ?_ | refine Post.tail ?_ | refine W.cond_t rfl ?_ | refine W.cond_f rfl ?_ | refine W.block ?_ | refine W.skip ?_ | refine W.exit ?_ | refine W.ret ?_ | refine Post.block_exit ?_ | refine Post.block_other rfl ?_ | refine Post.then_exit ?_ | refine Post.then_ret ?_ | refine Post.block_ret ?_ | refine Post.block_normal ?_ | refine WL.lenS (tyS rfl) rfl rfl ?_ | refine WL.lenStr und9 rfl rfl ?_ | refine WL.fieldAddr (tyF rfl) rfl rfl ?_ | refine WL.not rfl rfl ?_ | refine WL.pick_t rfl rfl rfl ?_ | refine WL.pick_f rfl rfl rfl ?_ | refine WL.want rfl rfl ?_ | refine WL.skip rfl rfl rfl rfl ?_ | refine WL.extract rfl rfl rfl ?_ | refine WL.addI rfl rfl (by omega) rfl ?_ | refine WL.subI rfl rfl (by omega) rfl ?_ | refine WL.indexS (tyS rfl) rfl rfl (by omega) rfl ?_ | refine WL.indexA (tyR rfl) rfl rfl (by omega) rfl ?_)
                exact Post.round2 (i + 1) _ ⟨rfl, rfl, rfl, rfl, rfl, (by first | rfl | (simp [look]; done) | (simp [look]; omega)), trivial⟩ ⟨by omega, hmi, (hfin _ hEn).1, (hfin _ hEn).2, ((hux.trans huz).trans huh).step hgi (by intro j hj; cases hj; omega)⟩ (by first | omega | (simp; done) | (simp; omega))
          · refine WL.look1v map49 rfl rfl (fun _ e => e) (.inr ⟨_, rfl, hmz.mw⟩) (getD_out hdW) rfl ?_
            repeat (first | refine WL.move rfl rfl ?_ | refine WL.assign rfl rfl ?_ | refine W.seq ?_ | refine W.region ?_ | refine WL.nil ?_ | refine Post.next ?_ | refine Post.tail ?_ | refine W.cond_t rfl ?_ | refine W.cond_f rfl ?_ | refine W.block ?_ | refine W.skip ?_ | refine W.exit ?_ | refine W.ret ?_ | refine Post.block_exit ?_ | refine Post.block_other rfl ?_ | refine Post.then_exit ?_ | refine Post.then_ret ?_ | refine Post.block_ret ?_ | refine Post.block_normal ?_ | refine WL.lenS (tyS rfl) rfl rfl ?_ | refine WL.lenStr und9 rfl rfl ?_ | refine WL.fieldAddr (tyF rfl) rfl rfl ?_ | refine WL.not rfl rfl ?_ | refine WL.pick_t rfl rfl rfl ?_ | refine WL.pick_f rfl rfl rfl ?_ | refine WL.want rfl rfl ?_ | refine WL.skip rfl rfl rfl rfl ?_ | refine WL.extract rfl rfl rfl ?_ | refine WL.addI rfl rfl (by omega) rfl ?_ | refine WL.subI rfl rfl (by omega) rfl ?_ | refine WL.indexS (tyS rfl) rfl rfl (by omega) rfl ?_ | refine WL.indexA (tyR rfl) rfl rfl (by omega) rfl ?_)
            exact Post.round2 (i + 1) pm ⟨rfl, rfl, rfl, rfl, rfl, (by first | rfl | (simp [look]; done) | (simp [look]; omega)), trivial⟩ ⟨by omega, hpz, hpW, skip (fun h => absurd h hdW), hux.trans huz⟩ (by first | omega | (simp; done) | (simp; omega))
        · have hii : rs.take i = rs := List.take_of_length_le (by omega)
          rw [hii] at hpN
          repeat (first | refine WL.move rfl rfl ?_ | refine WL.assign rfl rfl ?_ | refine W.seq ?_ | refine W.region ?_ | refine WL.nil ?_ | refine Post.next ?_ | refine Post.tail ?_ | refine W.cond_t rfl ?_ | refine W.cond_f rfl ?_ | refine W.block ?_ | refine W.skip ?_ | refine W.exit ?_ | refine W.ret ?_ | refine Post.block_exit ?_ | refine Post.block_other rfl ?_ | refine Post.then_exit ?_ | refine Post.then_ret ?_ | refine Post.block_ret ?_ | refine Post.block_normal ?_ | refine WL.lenS (tyS rfl) rfl rfl ?_ | refine WL.lenStr und9 rfl rfl ?_ | refine WL.fieldAddr (tyF rfl) rfl rfl ?_ | refine WL.not rfl rfl ?_ | refine WL.pick_t rfl rfl rfl ?_ | refine WL.pick_f rfl rfl rfl ?_ | refine WL.want rfl rfl ?_ | refine WL.skip rfl rfl rfl rfl ?_ | refine WL.extract rfl rfl rfl ?_)
          have hmx := hm.up (hux.trans (Up.drew wx))
          refine W.region_f [(0, true), (1, true), (2, true)] [3] (fun w' => w' = wx.drew) mixed (by kernel_rfl) rfl ?_
          repeat (first | refine WL.move rfl rfl ?_ | refine WL.assign rfl rfl ?_ | refine W.seq ?_ | refine W.region ?_ | refine WL.nil ?_ | refine Post.next ?_ | refine Post.tail ?_ | refine W.cond_t rfl ?_ | refine W.cond_f rfl ?_ | refine W.block ?_ | refine W.skip ?_ | refine W.exit ?_ | refine W.ret ?_ | refine Post.block_exit ?_ | refine Post.block_other rfl ?_ | refine Post.then_exit ?_ | refine Post.then_ret ?_ | refine Post.block_ret ?_ | refine Post.block_normal ?_ | refine WL.lenS (tyS rfl) rfl rfl ?_ | refine WL.lenStr und9 rfl rfl ?_ | refine WL.fieldAddr (tyF rfl) rfl rfl ?_ | refine WL.not rfl rfl ?_ | refine WL.pick_t rfl rfl rfl ?_ | refine WL.pick_f rfl rfl rfl ?_ | refine WL.want rfl rfl ?_ | refine WL.skip rfl rfl rfl rfl ?_ | refine WL.extract rfl rfl rfl ?_)
          refine WL.load (o' := 0) (tyP rfl) rfl (fun _ e => e) (hmx.bw.cell rfl) rfl rfl ?_
          repeat (first | refine WL.move rfl rfl ?_ | refine WL.assign rfl rfl ?_ | refine W.seq ?_ | refine W.region ?_ | refine WL.nil ?_ | refine Post.next ?_ | refine Post.tail ?_ | refine W.cond_t rfl ?_ | refine W.cond_f rfl ?_ | refine W.block ?_ | refine W.skip ?_ | refine W.exit ?_ | refine W.ret ?_ | refine Post.block_exit ?_ | refine Post.block_other rfl ?_ | refine Post.then_exit ?_ | refine Post.then_ret ?_ | refine Post.block_ret ?_ | refine Post.block_normal ?_ | refine WL.lenS (tyS rfl) rfl rfl ?_ | refine WL.lenStr und9 rfl rfl ?_ | refine WL.fieldAddr (tyF rfl) rfl rfl ?_ | refine WL.not rfl rfl ?_ | refine WL.pick_t rfl rfl rfl ?_ | refine WL.pick_f rfl rfl rfl ?_ | refine WL.want rfl rfl ?_ | refine WL.skip rfl rfl rfl rfl ?_ | refine WL.extract rfl rfl rfl ?_)
          refine Post.fin ?_
          refine WL.store (o' := 0) (tyP rfl) rfl rfl rfl hmx.bw rfl (by simp) ?_
          intro wy hgy hzy hry
          refine ⟨trivial, ?_⟩
          have hgwlt := hm.bw.lt
          have hpmx := (hpm.up (Up.drew wx)).kept hgy (fun e => by have := Option.some.inj e; omega)
          have hmwx := hmx.mw.kept hgy (fun e => hmx.lo.1 (Option.some.inj e))
          have hgwge : gt ≤ gw := hgw
          have huy : Up w wy := (hu.trans (hux.trans (Up.drew wx))).step hgy (by intro j hj; cases hj; omega)
          repeat (first | refine WL.move rfl rfl ?_ | refine WL.assign rfl rfl ?_ | refine W.seq ?_ | refine W.region ?_ | refine WL.nil ?_ | refine Post.next ?_ | refine Post.tail ?_ | refine W.cond_t rfl ?_ | refine W.cond_f rfl ?_ | refine W.block ?_ | refine W.skip ?_ | refine W.exit ?_ | refine W.ret ?_ | refine Post.block_exit ?_ | refine Post.block_other rfl ?_ | refine Post.then_exit ?_ | refine Post.then_ret ?_ | refine Post.block_ret ?_ | refine Post.block_normal ?_ | refine WL.lenS (tyS rfl) rfl rfl ?_ | refine WL.lenStr und9 rfl rfl ?_ | refine WL.fieldAddr (tyF rfl) rfl rfl ?_ | refine WL.not rfl rfl ?_ | refine WL.pick_t rfl rfl rfl ?_ | refine WL.pick_f rfl rfl rfl ?_ | refine WL.want rfl rfl ?_ | refine WL.skip rfl rfl rfl rfl ?_ | refine WL.extract rfl rfl rfl ?_)
          refine Post.retTC rfl (tyP rfl) rfl rfl (hry.cell rfl) ⟨rp, rw_, pm, wm, rfl, hpmx, hmwx, hm.tr, hkF, ⟨fun k hk => ?_, fun k hk hkW => ?_, fun k hk hkW d hd hdW => ?_, fun k hk hkW h => ?_⟩, huy⟩
          · by_cases hkW : k ∈ keys wm
            · rw [hpW k hkW]; exact mget_none.2 hk
            · exact (hpN k hkW).2 (fun d hd => absurd ((hri.mem k d).1 hd).1 hk)
          · obtain ⟨u, hu1⟩ := mget_some.2 hk
            exact ⟨u, by rw [hpW k hkW, hu1], hTM.ok k u hu1⟩
          · refine (hpN k hkW).1 d ((hri.mem k d).2 ⟨hk, by simp [keys], ?_, hd⟩) hdW
            cases hsd : seedB T Te ent k with
            | false => rfl
            | true =>
              exfalso
              obtain ⟨u, hu1⟩ := mget_some.2 hk
              exact hkW (hkF.don k (.inr ⟨hk, hsd⟩) 0 (.inl (by show (mget T k).isSome = true; rw [hu1]; rfl)))
          · exact (hpN k hkW).2 (fun d hd => h d ((hri.mem k d).1 hd).2.2.2)
      · intro c rem' wy hperm hgy hzy hiy
        refine ⟨trivial, ?_⟩
        have huy := hux.step hgy (by intro j hj; cases hj; omega)
        have hpy := hpm.iter hit.at hgy
        have hmy := hm.up huy
        have hkp := keys_perm hperm
        have hlp := hperm.length_eq
        simp only [List.length_cons] at hlp
        have hnn := hkp.nodup_iff.1 hrn3
        have hc1 : c.1 ∉ keys rem' := (List.nodup_cons.1 hnn).1
        have hkm : ∀ k, k ∈ keys rem ↔ k = c.1 ∨ k ∈ keys rem' := fun k => by rw [hkp.mem_iff]; simp [keys]
        have hcW : c.1 ∈ keys wm := hrs3 _ ((hkm _).2 (.inl rfl))
        repeat (first | refine WL.move rfl rfl ?_ | refine WL.assign rfl rfl ?_ | refine W.seq ?_ | refine W.region ?_ | refine WL.nil ?_ | refine Post.next ?_ | refine Post.tail ?_ | refine W.cond_t rfl ?_ | refine W.cond_f rfl ?_ | refine W.block ?_ | refine W.skip ?_ | refine W.exit ?_ | refine W.ret ?_ | refine Post.block_exit ?_ | refine Post.block_other rfl ?_ | refine Post.then_exit ?_ | refine Post.then_ret ?_ | refine Post.block_ret ?_ | refine Post.block_normal ?_ | refine WL.lenS (tyS rfl) rfl rfl ?_ | refine WL.lenStr und9 rfl rfl ?_ | refine WL.fieldAddr (tyF rfl) rfl rfl ?_ | refine WL.not rfl rfl ?_ | refine WL.pick_t rfl rfl rfl ?_ | refine WL.pick_f rfl rfl rfl ?_ | refine WL.want rfl rfl ?_ | refine WL.skip rfl rfl rfl rfl ?_ | refine WL.extract rfl rfl rfl ?_)
        refine WL.entry rfl (fun _ e => e) hiy rfl ?_
        repeat (first | refine WL.move rfl rfl ?_ | refine WL.assign rfl rfl ?_ | refine W.seq ?_ | refine W.region ?_ | refine WL.nil ?_ | refine Post.next ?_ | refine Post.tail ?_ | refine W.cond_t rfl ?_ | refine W.cond_f rfl ?_ | refine W.block ?_ | refine W.skip ?_ | refine W.exit ?_ | refine W.ret ?_ | refine Post.block_exit ?_ | refine Post.block_other rfl ?_ | refine Post.then_exit ?_ | refine Post.then_ret ?_ | refine Post.block_ret ?_ | refine Post.block_normal ?_ | refine WL.lenS (tyS rfl) rfl rfl ?_ | refine WL.lenStr und9 rfl rfl ?_ | refine WL.fieldAddr (tyF rfl) rfl rfl ?_ | refine WL.not rfl rfl ?_ | refine WL.pick_t rfl rfl rfl ?_ | refine WL.pick_f rfl rfl rfl ?_ | refine WL.want rfl rfl ?_ | refine WL.skip rfl rfl rfl rfl ?_ | refine WL.extract rfl rfl rfl ?_)
        refine WL.load (o' := 0) (tyP rfl) rfl (fun _ e => e) (hmy.bt.cell rfl) rfl rfl ?_
        repeat (first | refine WL.move rfl rfl ?_ | refine WL.assign rfl rfl ?_ | refine W.seq ?_ | refine W.region ?_ | refine WL.nil ?_ | refine Post.next ?_ | refine Post.tail ?_ | refine W.cond_t rfl ?_ | refine W.cond_f rfl ?_ | refine W.block ?_ | refine W.skip ?_ | refine W.exit ?_ | refine W.ret ?_ | refine Post.block_exit ?_ | refine Post.block_other rfl ?_ | refine Post.then_exit ?_ | refine Post.then_ret ?_ | refine Post.block_ret ?_ | refine Post.block_normal ?_ | refine WL.lenS (tyS rfl) rfl rfl ?_ | refine WL.lenStr und9 rfl rfl ?_ | refine WL.fieldAddr (tyF rfl) rfl rfl ?_ | refine WL.not rfl rfl ?_ | refine WL.pick_t rfl rfl rfl ?_ | refine WL.pick_f rfl rfl rfl ?_ | refine WL.want rfl rfl ?_ | refine WL.skip rfl rfl rfl rfl ?_ | refine WL.extract rfl rfl rfl ?_)
        refine WL.look2 map45 rfl rfl (fun _ e => e) hmy.mt rfl ?_
        repeat (first | refine WL.move rfl rfl ?_ | refine WL.assign rfl rfl ?_ | refine W.seq ?_ | refine W.region ?_ | refine WL.nil ?_ | refine Post.next ?_ | refine Post.tail ?_ | refine W.cond_t rfl ?_ | refine W.cond_f rfl ?_ | refine W.block ?_ | refine W.skip ?_ | refine W.exit ?_ | refine W.ret ?_ | refine Post.block_exit ?_ | refine Post.block_other rfl ?_ | refine Post.then_exit ?_ | refine Post.then_ret ?_ | refine Post.block_ret ?_ | refine Post.block_normal ?_ | refine WL.lenS (tyS rfl) rfl rfl ?_ | refine WL.lenStr und9 rfl rfl ?_ | refine WL.fieldAddr (tyF rfl) rfl rfl ?_ | refine WL.not rfl rfl ?_ | refine WL.pick_t rfl rfl rfl ?_ | refine WL.pick_f rfl rfl rfl ?_ | refine WL.want rfl rfl ?_ | refine WL.skip rfl rfl rfl rfl ?_ | refine WL.extract rfl rfl rfl ?_)
        refine WL.alloc zero68 rfl ?_
        intro w5 hg5 hz5 hr5
        refine ⟨trivial, ?_⟩
        obtain ⟨vs, hvs, hvl, hv1⟩ := hTM.ents.get c.1
        refine WL.storeAgg (vs := vs) (o' := 0) (tyA rfl) rfl (congrArg some hvs) hvl hv1 hr5 rfl (by rw [hvl]; exact Nat.le_refl _) ?_
        intro w6 hg6 hz6 hr6
        refine ⟨trivial, ?_⟩
        rw [spl_all (by rw [hvl]; rfl)] at hr6
        have hu6 : Up wy w6 := (Up.grown hg5).step hg6 (by intro j hj; cases hj; exact Nat.le_refl _)
        have hi6 : Iter w6 it3 (.map (some rw_)) wm rem' (some c) := hiy.of_blocks (hu6.block hiy.it_lt) (fun g e => by cases e; exact hu6.block hmy.mw.lt_size)
        cases ha : mget T c.1 with
        | some ea =>
          have hvs' : ea = .agg vs.toArray := by rw [ha] at hvs; exact hvs
          repeat (first | refine WL.move rfl rfl ?_ | refine WL.assign rfl rfl ?_ | refine W.seq ?_ | refine W.region ?_ | refine WL.nil ?_ | refine Post.next ?_ | refine Post.tail ?_ | refine W.cond_t rfl ?_ | refine W.cond_f rfl ?_ | refine W.block ?_ | refine W.skip ?_ | refine W.exit ?_ | refine W.ret ?_ | refine Post.block_exit ?_ | refine Post.block_other rfl ?_ | refine Post.then_exit ?_ | refine Post.then_ret ?_ | refine Post.block_ret ?_ | refine Post.block_normal ?_ | refine WL.lenS (tyS rfl) rfl rfl ?_ | refine WL.lenStr und9 rfl rfl ?_ | refine WL.fieldAddr (tyF rfl) rfl rfl ?_ | refine WL.not rfl rfl ?_ | refine WL.pick_t rfl rfl rfl ?_ | refine WL.pick_f rfl rfl rfl ?_ | refine WL.want rfl rfl ?_ | refine WL.skip rfl rfl rfl rfl ?_ | refine WL.extract rfl rfl rfl ?_)
          refine WL.loadAgg (cs := vs) (o' := 0) (tyA rfl) rfl hvl (fun _ e => e) (fun j v hj => by rw [Nat.zero_add]; exact hr6.cell hj) (by first | omega | (simp; done) | (simp; omega)) rfl ?_
          refine WL.mapSet map45 rfl rfl rfl (hpy.up hu6) ?_
          intro w7 hg7 hz7 hm7
          refine ⟨trivial, ?_⟩
          repeat (first | refine WL.move rfl rfl ?_ | refine WL.assign rfl rfl ?_ | refine W.seq ?_ | refine W.region ?_ | refine WL.nil ?_ | refine Post.next ?_ | refine Post.tail ?_ | refine W.cond_t rfl ?_ | refine W.cond_f rfl ?_ | refine W.block ?_ | refine W.skip ?_ | refine W.exit ?_ | refine W.ret ?_ | refine Post.block_exit ?_ | refine Post.block_other rfl ?_ | refine Post.then_exit ?_ | refine Post.then_ret ?_ | refine Post.block_ret ?_ | refine Post.block_normal ?_ | refine WL.lenS (tyS rfl) rfl rfl ?_ | refine WL.lenStr und9 rfl rfl ?_ | refine WL.fieldAddr (tyF rfl) rfl rfl ?_ | refine WL.not rfl rfl ?_ | refine WL.pick_t rfl rfl rfl ?_ | refine WL.pick_f rfl rfl rfl ?_ | refine WL.want rfl rfl ?_ | refine WL.skip rfl rfl rfl rfl ?_ | refine WL.extract rfl rfl rfl ?_)
          refine Post.round2 rem' _ ⟨rfl, rfl, rfl, rfl, rfl, trivial⟩ ⟨hm7, ⟨_, hi6.of_blocks (hg7.block it3 hi6.it_lt (fun e => hrpne (Option.some.inj e).symm)) (fun g e => by cases e; exact hg7.block rw_ (hmy.up hu6).mw.lt_size (fun e => by have := Option.some.inj e; have := hm.mw.lt_size; omega))⟩, (List.nodup_cons.1 hnn).2, fun k hk => hrs3 k ((hkm k).2 (.inr hk)), fun k => ?_, (huy.trans hu6).step hg7 (by intro j hj; cases hj; omega)⟩ (by omega)
          rw [mget_mset]
          by_cases e : c.1 = k
          · subst e; rw [if_pos rfl, if_pos ⟨hcW, hc1⟩, ha, hvs']
          · rw [if_neg e, hpg]
            by_cases h1 : k ∈ keys wm ∧ k ∉ keys rem
            · rw [if_pos h1, if_pos ⟨h1.1, fun h => h1.2 ((hkm k).2 (.inr h))⟩]
            · rw [if_neg h1, if_neg (fun h => h1 ⟨h.1, fun h' => ((hkm k).1 h').elim (fun h => e h.symm) h.2⟩)]
        | none =>
          repeat (first | refine WL.move rfl rfl ?_ | refine WL.assign rfl rfl ?_ | refine W.seq ?_ | refine W.region ?_ | refine WL.nil ?_ | refine Post.next ?_ | refine Post.tail ?_ | refine W.cond_t rfl ?_ | refine W.cond_f rfl ?_ | refine W.block ?_ | refine W.skip ?_ | refine W.exit ?_ | refine W.ret ?_ | refine Post.block_exit ?_ | refine Post.block_other rfl ?_ | refine Post.then_exit ?_ | refine Post.then_ret ?_ | refine Post.block_ret ?_ | refine Post.block_normal ?_ | refine WL.lenS (tyS rfl) rfl rfl ?_ | refine WL.lenStr und9 rfl rfl ?_ | refine WL.fieldAddr (tyF rfl) rfl rfl ?_ | refine WL.not rfl rfl ?_ | refine WL.pick_t rfl rfl rfl ?_ | refine WL.pick_f rfl rfl rfl ?_ | refine WL.want rfl rfl ?_ | refine WL.skip rfl rfl rfl rfl ?_ | refine WL.extract rfl rfl rfl ?_)
          refine Post.round2 rem' pm ⟨rfl, rfl, rfl, rfl, rfl, trivial⟩ ⟨hpy.up hu6, ⟨_, hi6⟩, (List.nodup_cons.1 hnn).2, fun k hk => hrs3 k ((hkm k).2 (.inr hk)), fun k => ?_, huy.trans hu6⟩ (by omega)
          rw [hpg]
          by_cases e : c.1 = k
          · subst e
            rw [if_neg (fun h => h.2 ((hkm _).2 (.inl rfl))), if_pos ⟨hcW, hc1⟩, ha]
          · by_cases h1 : k ∈ keys wm ∧ k ∉ keys rem
            · rw [if_pos h1, if_pos ⟨h1.1, fun h => h1.2 ((hkm k).2 (.inr h))⟩]
            · rw [if_neg h1, if_neg (fun h => h1 ⟨h.1, fun h' => ((hkm k).1 h').elim (fun h => e h.symm) h.2⟩)]
    · intro c rem' wb hperm hgb hzb hib
      refine ⟨trivial, ?_⟩
      have hmb := hm.iter hit.at hgb
      have hub := hu.step hgb (by intro j hj; cases hj; omega)
      have hrob := own_iter hro hit.at hgb
      have hkp := keys_perm hperm
      have hlp := hperm.length_eq
      simp only [List.length_cons] at hlp
      have hnn := hkp.nodup_iff.1 hrn
      have hc1 : c.1 ∉ keys rem' := (List.nodup_cons.1 hnn).1
      have hkm : ∀ k, k ∈ keys rem ↔ k = c.1 ∨ k ∈ keys rem' := fun k => by rw [hkp.mem_iff]; simp [keys]
      have hcm : c ∈ T := hrs _ (hperm.mem_iff.2 (by simp))
      have hcT : c.1 ∈ keys T := List.mem_map.2 ⟨c, hcm, rfl⟩
      have hget : mget T c.1 = some c.2 := mget_of_mem hvt.kd hcm
      obtain ⟨hbd, hsrt, hc4⟩ := hTM.bd _ hcT
      obtain ⟨t, hct, htv⟩ := hTM.ok c.1 c.2 hget
      have hrs' : ∀ x ∈ rem', x ∈ T := fun x hx => hrs x (hperm.mem_iff.2 (List.mem_cons_of_mem _ hx))
      repeat (first | refine WL.move rfl rfl ?_ | refine WL.assign rfl rfl ?_ | refine W.seq ?_ | refine W.region ?_ | refine WL.nil ?_ | refine Post.next ?_ | refine Post.tail ?_ | refine W.cond_t rfl ?_ | refine W.cond_f rfl ?_ | refine W.block ?_ | refine W.skip ?_ | refine W.exit ?_ | refine W.ret ?_ | refine Post.block_exit ?_ | refine Post.block_other rfl ?_ | refine Post.then_exit ?_ | refine Post.then_ret ?_ | refine Post.block_ret ?_ | refine Post.block_normal ?_ | refine WL.lenS (tyS rfl) rfl rfl ?_ | refine WL.lenStr und9 rfl rfl ?_ | refine WL.fieldAddr (tyF rfl) rfl rfl ?_ | refine WL.not rfl rfl ?_ | refine WL.pick_t rfl rfl rfl ?_ | refine WL.pick_f rfl rfl rfl ?_ | refine WL.want rfl rfl ?_ | refine WL.skip rfl rfl rfl rfl ?_ | refine WL.extract rfl rfl rfl ?_)
      refine WL.entry rfl (fun _ e => e) hib rfl ?_
      repeat (first | refine WL.move rfl rfl ?_ | refine WL.assign rfl rfl ?_ | refine W.seq ?_ | refine W.region ?_ | refine WL.nil ?_ | refine Post.next ?_ | refine Post.tail ?_ | refine W.cond_t rfl ?_ | refine W.cond_f rfl ?_ | refine W.block ?_ | refine W.skip ?_ | refine W.exit ?_ | refine W.ret ?_ | refine Post.block_exit ?_ | refine Post.block_other rfl ?_ | refine Post.then_exit ?_ | refine Post.then_ret ?_ | refine Post.block_ret ?_ | refine Post.block_normal ?_ | refine WL.lenS (tyS rfl) rfl rfl ?_ | refine WL.lenStr und9 rfl rfl ?_ | refine WL.fieldAddr (tyF rfl) rfl rfl ?_ | refine WL.not rfl rfl ?_ | refine WL.pick_t rfl rfl rfl ?_ | refine WL.pick_f rfl rfl rfl ?_ | refine WL.want rfl rfl ?_ | refine WL.skip rfl rfl rfl rfl ?_ | refine WL.extract rfl rfl rfl ?_)
      refine WL.alloc zero68 rfl ?_
      intro w5 hg5 hz5 hr5
      refine ⟨trivial, ?_⟩
      repeat (first | refine WL.move rfl rfl ?_ | refine WL.assign rfl rfl ?_ | refine W.seq ?_ | refine W.region ?_ | refine WL.nil ?_ | refine Post.next ?_ | refine Post.tail ?_ | refine W.cond_t rfl ?_ | refine W.cond_f rfl ?_ | refine W.block ?_ | refine W.skip ?_ | refine W.exit ?_ | refine W.ret ?_ | refine Post.block_exit ?_ | refine Post.block_other rfl ?_ | refine Post.then_exit ?_ | refine Post.then_ret ?_ | refine Post.block_ret ?_ | refine Post.block_normal ?_ | refine WL.lenS (tyS rfl) rfl rfl ?_ | refine WL.lenStr und9 rfl rfl ?_ | refine WL.fieldAddr (tyF rfl) rfl rfl ?_ | refine WL.not rfl rfl ?_ | refine WL.pick_t rfl rfl rfl ?_ | refine WL.pick_f rfl rfl rfl ?_ | refine WL.want rfl rfl ?_ | refine WL.skip rfl rfl rfl rfl ?_ | refine WL.extract rfl rfl rfl ?_)
      refine WL.storeAgg (vs := t.cells (ent c.1)) (o' := 0) (tyA rfl) rfl (congrArg some hct) rfl htv.one hr5 rfl (by simp [TE.cells, zE]) ?_
      intro w6 hg6 hz6 hr6
      refine ⟨trivial, ?_⟩
      rw [spl_all (by simp [TE.cells, zE])] at hr6
      have hu6 : Up wb w6 := (Up.grown hg5).step hg6 (by intro j hj; cases hj; exact Nat.le_refl _)
      have hm6 := hmb.up hu6
      repeat (first | refine WL.move rfl rfl ?_ | refine WL.assign rfl rfl ?_ | refine W.seq ?_ | refine W.region ?_ | refine WL.nil ?_ | refine Post.next ?_ | refine Post.tail ?_ | refine W.cond_t rfl ?_ | refine W.cond_f rfl ?_ | refine W.block ?_ | refine W.skip ?_ | refine W.exit ?_ | refine W.ret ?_ | refine Post.block_exit ?_ | refine Post.block_other rfl ?_ | refine Post.then_exit ?_ | refine Post.then_ret ?_ | refine Post.block_ret ?_ | refine Post.block_normal ?_ | refine WL.lenS (tyS rfl) rfl rfl ?_ | refine WL.lenStr und9 rfl rfl ?_ | refine WL.fieldAddr (tyF rfl) rfl rfl ?_ | refine WL.not rfl rfl ?_ | refine WL.pick_t rfl rfl rfl ?_ | refine WL.pick_f rfl rfl rfl ?_ | refine WL.want rfl rfl ?_ | refine WL.skip rfl rfl rfl rfl ?_ | refine WL.extract rfl rfl rfl ?_)
      refine WL.load (o' := 0) (tyP rfl) rfl (fun _ e => e) (hm6.bt.cell rfl) rfl rfl ?_
      repeat (first | refine WL.move rfl rfl ?_ | refine WL.assign rfl rfl ?_ | refine W.seq ?_ | refine W.region ?_ | refine WL.nil ?_ | refine Post.next ?_ | refine Post.tail ?_ | refine W.cond_t rfl ?_ | refine W.cond_f rfl ?_ | refine W.block ?_ | refine W.skip ?_ | refine W.exit ?_ | refine W.ret ?_ | refine Post.block_exit ?_ | refine Post.block_other rfl ?_ | refine Post.then_exit ?_ | refine Post.then_ret ?_ | refine Post.block_ret ?_ | refine Post.block_normal ?_ | refine WL.lenS (tyS rfl) rfl rfl ?_ | refine WL.lenStr und9 rfl rfl ?_ | refine WL.fieldAddr (tyF rfl) rfl rfl ?_ | refine WL.not rfl rfl ?_ | refine WL.pick_t rfl rfl rfl ?_ | refine WL.pick_f rfl rfl rfl ?_ | refine WL.want rfl rfl ?_ | refine WL.skip rfl rfl rfl rfl ?_ | refine WL.extract rfl rfl rfl ?_)
      refine WL.call _ (fnT rfl) (args2 rfl rfl) (above_c w6 vt T c.1 hm6.mt hTM.ents hc4) (by rintro e w' ⟨rfl, _⟩; exact ⟨_, rfl⟩) rfl ?_
      rintro v w7 ⟨hv, hu7⟩
      cases hv
      refine ⟨trivial, ?_⟩
      have hr7 := hr6.up hu7
      have hm7 := hm6.up hu7
      have hbu7 : Up w w7 := (hub.trans hu6).trans hu7
      repeat (first | refine WL.move rfl rfl ?_ | refine WL.assign rfl rfl ?_ | refine W.region ?_ | refine WL.nil ?_ | refine Post.next ?_ | refine Post.tail ?_ | refine W.cond_t rfl ?_ | refine W.cond_f rfl ?_ | refine W.block ?_ | refine W.skip ?_ | refine W.exit ?_ | refine W.ret ?_ | refine Post.block_exit ?_ | refine Post.block_other rfl ?_ | refine Post.then_exit ?_ | refine Post.then_ret ?_ | refine Post.block_ret ?_ | refine Post.block_normal ?_ | refine WL.lenS (tyS rfl) rfl rfl ?_ | refine WL.lenStr und9 rfl rfl ?_ | refine WL.fieldAddr (tyF rfl) rfl rfl ?_ | refine WL.not rfl rfl ?_ | refine WL.pick_t rfl rfl rfl ?_ | refine WL.pick_f rfl rfl rfl ?_ | refine WL.want rfl rfl ?_ | refine WL.skip rfl rfl rfl rfl ?_ | refine WL.extract rfl rfl rfl ?_)
      refine W.seq_join [(2, ve), (3, .pointer (some ⟨gt, 0, none⟩)), (4, .pointer (some ⟨gc, 0, none⟩)), (7, .pointer (some ⟨gw, 0, none⟩)), (8, .func (.func 42) #[] #[.pointer (some ⟨gw, 0, none⟩), .pointer (some ⟨gt, 0, none⟩), .pointer (some ⟨gc, 0, none⟩)]), (10, rv), (33, .pointer (some ⟨it2, 0, none⟩)), (11, .string c.1), (13, .string ((abv T c.1).getD eB)), (14, .bool (abv T c.1).isSome), (45, .bool (seedB T Te ent c.1))] (fun w' => Up w7 w') ?_ ?_
      · obtain ⟨aD, cD, hDv, _⟩ := htv.DS.1
        have hD5 : (t.cells (ent c.1))[5]? = some (.slice aD (ent c.1).xDS.length cD) := congrArg some hDv
        obtain ⟨aK, cK, hKv, _⟩ := htv.KA.1
        have hK20 : (t.cells (ent c.1))[20]? = some (.slice aK (ent c.1).xKA.length cK) := congrArg some hKv
        repeat (first | refine WL.move rfl rfl ?_ | refine WL.assign rfl rfl ?_ | refine W.seq ?_ | refine W.region ?_ | refine WL.nil ?_ | refine Post.next ?_ | refine Post.tail ?_ | refine W.cond_t rfl ?_ | refine W.cond_f rfl ?_ | refine W.block ?_ | refine W.skip ?_ | refine W.exit ?_ | refine W.ret ?_ | refine Post.block_exit ?_ | refine Post.block_other rfl ?_ | refine Post.then_exit ?_ | refine Post.then_ret ?_ | refine Post.block_ret ?_ | refine Post.block_normal ?_ | refine WL.lenS (tyS rfl) rfl rfl ?_ | refine WL.lenStr und9 rfl rfl ?_ | refine WL.fieldAddr (tyF rfl) rfl rfl ?_ | refine WL.not rfl rfl ?_ | refine WL.pick_t rfl rfl rfl ?_ | refine WL.pick_f rfl rfl rfl ?_ | refine WL.want rfl rfl ?_ | refine WL.skip rfl rfl rfl rfl ?_ | refine WL.extract rfl rfl rfl ?_)
        refine WL.load (o' := 0) (tyP rfl) rfl (fun _ e => e) (hr7.cell rfl) (by first | omega | (simp; done) | (simp; omega)) rfl ?_
        repeat (first | refine WL.move rfl rfl ?_ | refine WL.assign rfl rfl ?_ | refine W.seq ?_ | refine W.region ?_ | refine WL.nil ?_ | refine Post.next ?_ | refine Post.tail ?_ | refine W.cond_t rfl ?_ | refine W.cond_f rfl ?_ | refine W.block ?_ | refine W.skip ?_ | refine W.exit ?_ | refine W.ret ?_ | refine Post.block_exit ?_ | refine Post.block_other rfl ?_ | refine Post.then_exit ?_ | refine Post.then_ret ?_ | refine Post.block_ret ?_ | refine Post.block_normal ?_ | refine WL.lenS (tyS rfl) rfl rfl ?_ | refine WL.lenStr und9 rfl rfl ?_ | refine WL.fieldAddr (tyF rfl) rfl rfl ?_ | refine WL.not rfl rfl ?_ | refine WL.pick_t rfl rfl rfl ?_ | refine WL.pick_f rfl rfl rfl ?_ | refine WL.want rfl rfl ?_ | refine WL.skip rfl rfl rfl rfl ?_ | refine WL.extract rfl rfl rfl ?_)
        refine WL.call _ (fnT rfl) (args1 rfl) (notice_c _ (ent c.1).kind) (by rintro e w' ⟨rfl, _⟩; exact ⟨_, rfl⟩) rfl ?_
        rintro v w8 ⟨hv, rfl⟩
        cases hv
        refine ⟨trivial, ?_⟩
        cases hd : decide ((ent c.1).kind = 0 ∨ (ent c.1).kind = 4)
        · repeat (first | refine WL.move rfl rfl ?_ | refine WL.assign rfl rfl ?_ | refine W.seq ?_ | refine W.region ?_ | refine WL.nil ?_ | refine Post.next ?_ | refine Post.tail ?_ | refine W.cond_t rfl ?_ | refine W.cond_f rfl ?_ | refine W.block ?_ | refine W.skip ?_ | refine W.exit ?_ | refine W.ret ?_ | refine Post.block_exit ?_ | refine Post.block_other rfl ?_ | refine Post.then_exit ?_ | refine Post.then_ret ?_ | refine Post.block_ret ?_ | refine Post.block_normal ?_ | refine WL.lenS (tyS rfl) rfl rfl ?_ | refine WL.lenStr und9 rfl rfl ?_ | refine WL.fieldAddr (tyF rfl) rfl rfl ?_ | refine WL.not rfl rfl ?_ | refine WL.pick_t rfl rfl rfl ?_ | refine WL.pick_f rfl rfl rfl ?_ | refine WL.want rfl rfl ?_ | refine WL.skip rfl rfl rfl rfl ?_ | refine WL.extract rfl rfl rfl ?_)
          refine WL.load (o' := 5) (tyP rfl) rfl (fun _ e => e) (hr7.cell hD5) (by first | omega | (simp; done) | (simp; omega)) rfl ?_
          repeat (first | refine WL.move rfl rfl ?_ | refine WL.assign rfl rfl ?_ | refine W.seq ?_ | refine W.region ?_ | refine WL.nil ?_ | refine Post.next ?_ | refine Post.tail ?_ | refine W.cond_t rfl ?_ | refine W.cond_f rfl ?_ | refine W.block ?_ | refine W.skip ?_ | refine W.exit ?_ | refine W.ret ?_ | refine Post.block_exit ?_ | refine Post.block_other rfl ?_ | refine Post.then_exit ?_ | refine Post.then_ret ?_ | refine Post.block_ret ?_ | refine Post.block_normal ?_ | refine WL.lenS (tyS rfl) rfl rfl ?_ | refine WL.lenStr und9 rfl rfl ?_ | refine WL.fieldAddr (tyF rfl) rfl rfl ?_ | refine WL.not rfl rfl ?_ | refine WL.pick_t rfl rfl rfl ?_ | refine WL.pick_f rfl rfl rfl ?_ | refine WL.want rfl rfl ?_ | refine WL.skip rfl rfl rfl rfl ?_ | refine WL.extract rfl rfl rfl ?_)
          refine WL.gtr rfl rfl rfl (fun h1 => ?_) (fun h1 => ?_)
          · have hs : seedB T Te ent c.1 = true := by
              have : 0 < (ent c.1).xDS.length := by omega
              simp [seedB, this]
            repeat (first | refine WL.move rfl rfl ?_ | refine WL.assign rfl rfl ?_ | refine W.seq ?_ | refine W.region ?_ | refine WL.nil ?_ | refine Post.next ?_ | refine Post.tail ?_ | refine W.cond_t rfl ?_ | refine W.cond_f rfl ?_ | refine W.block ?_ | refine W.skip ?_ | refine W.exit ?_ | refine W.ret ?_ | refine Post.block_exit ?_ | refine Post.block_other rfl ?_ | refine Post.then_exit ?_ | refine Post.then_ret ?_ | refine Post.block_ret ?_ | refine Post.block_normal ?_ | refine WL.lenS (tyS rfl) rfl rfl ?_ | refine WL.lenStr und9 rfl rfl ?_ | refine WL.fieldAddr (tyF rfl) rfl rfl ?_ | refine WL.not rfl rfl ?_ | refine WL.pick_t rfl rfl rfl ?_ | refine WL.pick_f rfl rfl rfl ?_ | refine WL.want rfl rfl ?_ | refine WL.skip rfl rfl rfl rfl ?_ | refine WL.extract rfl rfl rfl ?_)
            exact Post.join ⟨rfl, rfl, rfl, rfl, rfl, rfl, rfl, rfl, rfl, rfl, by rw [hs]; rfl, trivial⟩ (Up.refl _)
          · have h1' : ¬ 0 < (ent c.1).xDS.length := by omega
            repeat (first | refine WL.move rfl rfl ?_ | refine WL.assign rfl rfl ?_ | refine W.seq ?_ | refine W.region ?_ | refine WL.nil ?_ | refine Post.next ?_ | refine Post.tail ?_ | refine W.cond_t rfl ?_ | refine W.cond_f rfl ?_ | refine W.block ?_ | refine W.skip ?_ | refine W.exit ?_ | refine W.ret ?_ | refine Post.block_exit ?_ | refine Post.block_other rfl ?_ | refine Post.then_exit ?_ | refine Post.then_ret ?_ | refine Post.block_ret ?_ | refine Post.block_normal ?_ | refine WL.lenS (tyS rfl) rfl rfl ?_ | refine WL.lenStr und9 rfl rfl ?_ | refine WL.fieldAddr (tyF rfl) rfl rfl ?_ | refine WL.not rfl rfl ?_ | refine WL.pick_t rfl rfl rfl ?_ | refine WL.pick_f rfl rfl rfl ?_ | refine WL.want rfl rfl ?_ | refine WL.skip rfl rfl rfl rfl ?_ | refine WL.extract rfl rfl rfl ?_)
            refine WL.load (o' := 20) (tyP rfl) rfl (fun _ e => e) (hr7.cell hK20) (by first | omega | (simp; done) | (simp; omega)) rfl ?_
            repeat (first | refine WL.move rfl rfl ?_ | refine WL.assign rfl rfl ?_ | refine W.seq ?_ | refine W.region ?_ | refine WL.nil ?_ | refine Post.next ?_ | refine Post.tail ?_ | refine W.cond_t rfl ?_ | refine W.cond_f rfl ?_ | refine W.block ?_ | refine W.skip ?_ | refine W.exit ?_ | refine W.ret ?_ | refine Post.block_exit ?_ | refine Post.block_other rfl ?_ | refine Post.then_exit ?_ | refine Post.then_ret ?_ | refine Post.block_ret ?_ | refine Post.block_normal ?_ | refine WL.lenS (tyS rfl) rfl rfl ?_ | refine WL.lenStr und9 rfl rfl ?_ | refine WL.fieldAddr (tyF rfl) rfl rfl ?_ | refine WL.not rfl rfl ?_ | refine WL.pick_t rfl rfl rfl ?_ | refine WL.pick_f rfl rfl rfl ?_ | refine WL.want rfl rfl ?_ | refine WL.skip rfl rfl rfl rfl ?_ | refine WL.extract rfl rfl rfl ?_)
            refine WL.gtr rfl rfl rfl (fun h2 => ?_) (fun h2 => ?_)
            · have hs : seedB T Te ent c.1 = true := by
                have : 0 < (ent c.1).xKA.length := by omega
                simp [seedB, this]
              repeat (first | refine WL.move rfl rfl ?_ | refine WL.assign rfl rfl ?_ | refine W.seq ?_ | refine W.region ?_ | refine WL.nil ?_ | refine Post.next ?_ | refine Post.tail ?_ | refine W.cond_t rfl ?_ | refine W.cond_f rfl ?_ | refine W.block ?_ | refine W.skip ?_ | refine W.exit ?_ | refine W.ret ?_ | refine Post.block_exit ?_ | refine Post.block_other rfl ?_ | refine Post.then_exit ?_ | refine Post.then_ret ?_ | refine Post.block_ret ?_ | refine Post.block_normal ?_ | refine WL.lenS (tyS rfl) rfl rfl ?_ | refine WL.lenStr und9 rfl rfl ?_ | refine WL.fieldAddr (tyF rfl) rfl rfl ?_ | refine WL.not rfl rfl ?_ | refine WL.pick_t rfl rfl rfl ?_ | refine WL.pick_f rfl rfl rfl ?_ | refine WL.want rfl rfl ?_ | refine WL.skip rfl rfl rfl rfl ?_ | refine WL.extract rfl rfl rfl ?_)
              exact Post.join ⟨rfl, rfl, rfl, rfl, rfl, rfl, rfl, rfl, rfl, rfl, by rw [hs]; rfl, trivial⟩ (Up.refl _)
            · have h2' : ¬ 0 < (ent c.1).xKA.length := by omega
              have hsd : seedB T Te ent c.1 = (match abv T c.1 with | none => false | some d => teB Te d || !leqG (ent c.1).xS (ent d).xS) := by
                unfold seedB
                rw [hd, decide_eq_false h1', decide_eq_false h2']
                rfl
              cases hab : abv T c.1 with
              | none =>
                rw [hab] at hsd
                have hab' : aboveG (fun k => (mget T k).isSome) c.1 = none := hab
                rw [hab']
                repeat (first | refine WL.move rfl rfl ?_ | refine WL.assign rfl rfl ?_ | refine W.seq ?_ | refine W.region ?_ | refine WL.nil ?_ | refine Post.next ?_ | refine Post.tail ?_ | refine W.cond_t rfl ?_ | refine W.cond_f rfl ?_ | refine W.block ?_ | refine W.skip ?_ | refine W.exit ?_ | refine W.ret ?_ | refine Post.block_exit ?_ | refine Post.block_other rfl ?_ | refine Post.then_exit ?_ | refine Post.then_ret ?_ | refine Post.block_ret ?_ | refine Post.block_normal ?_ | refine WL.lenS (tyS rfl) rfl rfl ?_ | refine WL.lenStr und9 rfl rfl ?_ | refine WL.fieldAddr (tyF rfl) rfl rfl ?_ | refine WL.not rfl rfl ?_ | refine WL.pick_t rfl rfl rfl ?_ | refine WL.pick_f rfl rfl rfl ?_ | refine WL.want rfl rfl ?_ | refine WL.skip rfl rfl rfl rfl ?_ | refine WL.extract rfl rfl rfl ?_)
                exact Post.join ⟨rfl, rfl, rfl, rfl, rfl, rfl, rfl, rfl, rfl, rfl, by rw [hsd]; rfl, trivial⟩ (Up.refl _)
              | some d =>
                rw [hab] at hsd
                have hab' : aboveG (fun k => (mget T k).isSome) c.1 = some d := hab
                rw [hab']
                obtain ⟨hdT, _⟩ := abv_mem hab
                obtain ⟨ud, hud⟩ := mget_some.2 hdT
                obtain ⟨td, htd, htvd⟩ := hTM.ok d ud hud
                obtain ⟨hbdd, hsrtd, _⟩ := hTM.bd d hdT
                repeat (first | refine WL.move rfl rfl ?_ | refine WL.assign rfl rfl ?_ | refine W.seq ?_ | refine W.region ?_ | refine WL.nil ?_ | refine Post.next ?_ | refine Post.tail ?_ | refine W.cond_t rfl ?_ | refine W.cond_f rfl ?_ | refine W.block ?_ | refine W.skip ?_ | refine W.exit ?_ | refine W.ret ?_ | refine Post.block_exit ?_ | refine Post.block_other rfl ?_ | refine Post.then_exit ?_ | refine Post.then_ret ?_ | refine Post.block_ret ?_ | refine Post.block_normal ?_ | refine WL.lenS (tyS rfl) rfl rfl ?_ | refine WL.lenStr und9 rfl rfl ?_ | refine WL.fieldAddr (tyF rfl) rfl rfl ?_ | refine WL.not rfl rfl ?_ | refine WL.pick_t rfl rfl rfl ?_ | refine WL.pick_f rfl rfl rfl ?_ | refine WL.want rfl rfl ?_ | refine WL.skip rfl rfl rfl rfl ?_ | refine WL.extract rfl rfl rfl ?_)
                refine WL.look1v map49 rfl rfl (fun _ e => e) (hve.up hbu7) (teB_get hEb d) rfl ?_
                cases hte : teB Te d
                · repeat (first | refine WL.move rfl rfl ?_ | refine WL.assign rfl rfl ?_ | refine W.seq ?_ | refine W.region ?_ | refine WL.nil ?_ | refine Post.next ?_ | refine Post.tail ?_ | refine W.cond_t rfl ?_ | refine W.cond_f rfl ?_ | refine W.block ?_ | refine W.skip ?_ | refine W.exit ?_ | refine W.ret ?_ | refine Post.block_exit ?_ | refine Post.block_other rfl ?_ | refine Post.then_exit ?_ | refine Post.then_ret ?_ | refine Post.block_ret ?_ | refine Post.block_normal ?_ | refine WL.lenS (tyS rfl) rfl rfl ?_ | refine WL.lenStr und9 rfl rfl ?_ | refine WL.fieldAddr (tyF rfl) rfl rfl ?_ | refine WL.not rfl rfl ?_ | refine WL.pick_t rfl rfl rfl ?_ | refine WL.pick_f rfl rfl rfl ?_ | refine WL.want rfl rfl ?_ | refine WL.skip rfl rfl rfl rfl ?_ | refine WL.extract rfl rfl rfl ?_)
                  refine WL.load (o' := 3) (tyP rfl) rfl (fun _ e => e) (hr7.cell rfl) (by first | omega | (simp; done) | (simp; omega)) rfl ?_
                  repeat (first | refine WL.move rfl rfl ?_ | refine WL.assign rfl rfl ?_ | refine W.seq ?_ | refine W.region ?_ | refine WL.nil ?_ | refine Post.next ?_ | refine Post.tail ?_ | refine W.cond_t rfl ?_ | refine W.cond_f rfl ?_ | refine W.block ?_ | refine W.skip ?_ | refine W.exit ?_ | refine W.ret ?_ | refine Post.block_exit ?_ | refine Post.block_other rfl ?_ | refine Post.then_exit ?_ | refine Post.then_ret ?_ | refine Post.block_ret ?_ | refine Post.block_normal ?_ | refine WL.lenS (tyS rfl) rfl rfl ?_ | refine WL.lenStr und9 rfl rfl ?_ | refine WL.fieldAddr (tyF rfl) rfl rfl ?_ | refine WL.not rfl rfl ?_ | refine WL.pick_t rfl rfl rfl ?_ | refine WL.pick_f rfl rfl rfl ?_ | refine WL.want rfl rfl ?_ | refine WL.skip rfl rfl rfl rfl ?_ | refine WL.extract rfl rfl rfl ?_)
                  refine WL.load (o' := 0) (tyP rfl) rfl (fun _ e => e) (hm7.bt.cell rfl) rfl rfl ?_
                  repeat (first | refine WL.move rfl rfl ?_ | refine WL.assign rfl rfl ?_ | refine W.seq ?_ | refine W.region ?_ | refine WL.nil ?_ | refine Post.next ?_ | refine Post.tail ?_ | refine W.cond_t rfl ?_ | refine W.cond_f rfl ?_ | refine W.block ?_ | refine W.skip ?_ | refine W.exit ?_ | refine W.ret ?_ | refine Post.block_exit ?_ | refine Post.block_other rfl ?_ | refine Post.then_exit ?_ | refine Post.then_ret ?_ | refine Post.block_ret ?_ | refine Post.block_normal ?_ | refine WL.lenS (tyS rfl) rfl rfl ?_ | refine WL.lenStr und9 rfl rfl ?_ | refine WL.fieldAddr (tyF rfl) rfl rfl ?_ | refine WL.not rfl rfl ?_ | refine WL.pick_t rfl rfl rfl ?_ | refine WL.pick_f rfl rfl rfl ?_ | refine WL.want rfl rfl ?_ | refine WL.skip rfl rfl rfl rfl ?_ | refine WL.extract rfl rfl rfl ?_)
                  have hgd : (mget T d).getD (.agg zE.toArray) = .agg (td.cells (ent d)).toArray := by rw [hud, htd]; rfl
                  refine WL.look1v map45 rfl rfl (fun _ e => e) hm7.mt hgd rfl ?_
                  repeat (first | refine WL.move rfl rfl ?_ | refine WL.assign rfl rfl ?_ | refine W.seq ?_ | refine W.region ?_ | refine WL.nil ?_ | refine Post.next ?_ | refine Post.tail ?_ | refine W.cond_t rfl ?_ | refine W.cond_f rfl ?_ | refine W.block ?_ | refine W.skip ?_ | refine W.exit ?_ | refine W.ret ?_ | refine Post.block_exit ?_ | refine Post.block_other rfl ?_ | refine Post.then_exit ?_ | refine Post.then_ret ?_ | refine Post.block_ret ?_ | refine Post.block_normal ?_ | refine WL.lenS (tyS rfl) rfl rfl ?_ | refine WL.lenStr und9 rfl rfl ?_ | refine WL.fieldAddr (tyF rfl) rfl rfl ?_ | refine WL.not rfl rfl ?_ | refine WL.pick_t rfl rfl rfl ?_ | refine WL.pick_f rfl rfl rfl ?_ | refine WL.want rfl rfl ?_ | refine WL.skip rfl rfl rfl rfl ?_ | refine WL.extract rfl rfl rfl ?_)
                  refine WL.field683 rfl rfl ?_
                  repeat (first | refine WL.move rfl rfl ?_ | refine WL.assign rfl rfl ?_ | refine W.seq ?_ | refine W.region ?_ | refine WL.nil ?_ | refine Post.next ?_ | refine Post.tail ?_ | refine W.cond_t rfl ?_ | refine W.cond_f rfl ?_ | refine W.block ?_ | refine W.skip ?_ | refine W.exit ?_ | refine W.ret ?_ | refine Post.block_exit ?_ | refine Post.block_other rfl ?_ | refine Post.then_exit ?_ | refine Post.then_ret ?_ | refine Post.block_ret ?_ | refine Post.block_normal ?_ | refine WL.lenS (tyS rfl) rfl rfl ?_ | refine WL.lenStr und9 rfl rfl ?_ | refine WL.fieldAddr (tyF rfl) rfl rfl ?_ | refine WL.not rfl rfl ?_ | refine WL.pick_t rfl rfl rfl ?_ | refine WL.pick_f rfl rfl rfl ?_ | refine WL.want rfl rfl ?_ | refine WL.skip rfl rfl rfl rfl ?_ | refine WL.extract rfl rfl rfl ?_)
                  refine WL.call _ (fnT rfl) (args2 rfl rfl) (leq_v _ _ _ (ent c.1).xS (ent d).xS (htv.up hbu7).S.1 (htvd.up hbu7).S.1 (Nat.le_trans hbd.S (by omega)) (Nat.le_trans hbdd.S (by omega))) (by rintro e w' ⟨rfl, _⟩; exact ⟨_, rfl⟩) rfl ?_
                  rintro v w9 ⟨hv, hu9⟩
                  cases hv
                  refine ⟨trivial, ?_⟩
                  cases hl : leqG (ent c.1).xS (ent d).xS
                  · have hs : seedB T Te ent c.1 = true := by rw [hsd]; simp only [hte, hl]; rfl
                    repeat (first | refine WL.move rfl rfl ?_ | refine WL.assign rfl rfl ?_ | refine W.seq ?_ | refine W.region ?_ | refine WL.nil ?_ | refine Post.next ?_ | refine Post.tail ?_ | refine W.cond_t rfl ?_ | refine W.cond_f rfl ?_ | refine W.block ?_ | refine W.skip ?_ | refine W.exit ?_ | refine W.ret ?_ | refine Post.block_exit ?_ | refine Post.block_other rfl ?_ | refine Post.then_exit ?_ | refine Post.then_ret ?_ | refine Post.block_ret ?_ | refine Post.block_normal ?_ | refine WL.lenS (tyS rfl) rfl rfl ?_ | refine WL.lenStr und9 rfl rfl ?_ | refine WL.fieldAddr (tyF rfl) rfl rfl ?_ | refine WL.not rfl rfl ?_ | refine WL.pick_t rfl rfl rfl ?_ | refine WL.pick_f rfl rfl rfl ?_ | refine WL.want rfl rfl ?_ | refine WL.skip rfl rfl rfl rfl ?_ | refine WL.extract rfl rfl rfl ?_)
                    exact Post.join ⟨rfl, rfl, rfl, rfl, rfl, rfl, rfl, rfl, rfl, rfl, by rw [hs]; rfl, trivial⟩ hu9
                  · have hs : seedB T Te ent c.1 = false := by rw [hsd]; simp only [hte, hl]; rfl
                    repeat (first | refine WL.move rfl rfl ?_ | refine WL.assign rfl rfl ?_ | refine W.seq ?_ | refine W.region ?_ | refine WL.nil ?_ | refine Post.next ?_ | refine Post.tail ?_ | refine W.cond_t rfl ?_ | refine W.cond_f rfl ?_ | refine W.block ?_ | refine W.skip ?_ | refine W.exit ?_ | refine W.ret ?_ | refine Post.block_exit ?_ | refine Post.block_other rfl ?_ | refine Post.then_exit ?_ | refine Post.then_ret ?_ | refine Post.block_ret ?_ | refine Post.block_normal ?_ | refine WL.lenS (tyS rfl) rfl rfl ?_ | refine WL.lenStr und9 rfl rfl ?_ | refine WL.fieldAddr (tyF rfl) rfl rfl ?_ | refine WL.not rfl rfl ?_ | refine WL.pick_t rfl rfl rfl ?_ | refine WL.pick_f rfl rfl rfl ?_ | refine WL.want rfl rfl ?_ | refine WL.skip rfl rfl rfl rfl ?_ | refine WL.extract rfl rfl rfl ?_)
                    exact Post.join ⟨rfl, rfl, rfl, rfl, rfl, rfl, rfl, rfl, rfl, rfl, by rw [hs]; rfl, trivial⟩ hu9
                · have hs : seedB T Te ent c.1 = true := by rw [hsd]; simp only [hte]; rfl
                  repeat (first | refine WL.move rfl rfl ?_ | refine WL.assign rfl rfl ?_ | refine W.seq ?_ | refine W.region ?_ | refine WL.nil ?_ | refine Post.next ?_ | refine Post.tail ?_ | refine W.cond_t rfl ?_ | refine W.cond_f rfl ?_ | refine W.block ?_ | refine W.skip ?_ | refine W.exit ?_ | refine W.ret ?_ | refine Post.block_exit ?_ | refine Post.block_other rfl ?_ | refine Post.then_exit ?_ | refine Post.then_ret ?_ | refine Post.block_ret ?_ | refine Post.block_normal ?_ | refine WL.lenS (tyS rfl) rfl rfl ?_ | refine WL.lenStr und9 rfl rfl ?_ | refine WL.fieldAddr (tyF rfl) rfl rfl ?_ | refine WL.not rfl rfl ?_ | refine WL.pick_t rfl rfl rfl ?_ | refine WL.pick_f rfl rfl rfl ?_ | refine WL.want rfl rfl ?_ | refine WL.skip rfl rfl rfl rfl ?_ | refine WL.extract rfl rfl rfl ?_)
                  exact Post.join ⟨rfl, rfl, rfl, rfl, rfl, rfl, rfl, rfl, rfl, rfl, by rw [hs]; rfl, trivial⟩ (Up.refl _)
        · have hs : seedB T Te ent c.1 = true := by simp only [seedB, hd, Bool.true_or]
          repeat (first | refine WL.move rfl rfl ?_ | refine WL.assign rfl rfl ?_ | refine W.seq ?_ | refine W.region ?_ | refine WL.nil ?_ | refine Post.next ?_ | refine Post.tail ?_ | refine W.cond_t rfl ?_ | refine W.cond_f rfl ?_ | refine W.block ?_ | refine W.skip ?_ | refine W.exit ?_ | refine W.ret ?_ | refine Post.block_exit ?_ | refine Post.block_other rfl ?_ | refine Post.then_exit ?_ | refine Post.then_ret ?_ | refine Post.block_ret ?_ | refine Post.block_normal ?_ | refine WL.lenS (tyS rfl) rfl rfl ?_ | refine WL.lenStr und9 rfl rfl ?_ | refine WL.fieldAddr (tyF rfl) rfl rfl ?_ | refine WL.not rfl rfl ?_ | refine WL.pick_t rfl rfl rfl ?_ | refine WL.pick_f rfl rfl rfl ?_ | refine WL.want rfl rfl ?_ | refine WL.skip rfl rfl rfl rfl ?_ | refine WL.extract rfl rfl rfl ?_)
          exact Post.join ⟨rfl, rfl, rfl, rfl, rfl, rfl, rfl, rfl, rfl, rfl, by rw [hs]; rfl, trivial⟩ (Up.refl _)
      · intro w8 hu8
        have hm8 := hm7.up hu8
        have hu68 : Up wb w8 := (hu6.trans hu7).trans hu8
        have hro8 := ownsRow_up hrob hu68
        have hi8 : Iter w8 it2 vt T rem' (some c) := hib.of_blocks (hu68.block hib.it_lt) (fun g e => by
          rcases hmb.mt with ⟨e', _⟩ | ⟨g', e', h⟩
          · rw [e'] at e; cases e
          · rw [e'] at e; cases e; exact hu68.block h.lt_size)
        have hub8 := hub.trans hu68
        have hs8 := hu68.size
        have hsb := hgb.size
        cases hsd : seedB T Te ent c.1 with
        | true =>
          have hD : ∀ q, (q ∈ keys C ∨ (q ∈ keys T ∧ q ∉ keys rem' ∧ seedB T Te ent q = true)) ↔ (q ∈ keys C ∨ (q ∈ keys T ∧ q ∉ keys rem ∧ seedB T Te ent q = true)) ∨ q = c.1 := fun q => by
            rw [hkm]
            constructor
            · rintro (h | ⟨h1, h2, h3⟩)
              · exact .inl (.inl h)
              · by_cases e : q = c.1
                · exact .inr e
                · exact .inl (.inr ⟨h1, fun h => h.elim e h2, h3⟩)
            · rintro ((h | ⟨h1, h2, h3⟩) | rfl)
              · exact .inl h
              · exact .inr ⟨h1, fun h => h2 (.inr h), h3⟩
              · exact .inr ⟨hcT, hc1, hsd⟩
          have hri' : RI T Te ent rem' rs := ⟨fun p d => by
            rw [hri.mem, hkm]
            constructor
            · rintro ⟨h1, h2, h3, h4⟩; exact ⟨h1, fun h => h2 (.inr h), h3, h4⟩
            · rintro ⟨h1, h2, h3, h4⟩
              refine ⟨h1, fun h => h.elim (fun e => ?_) h2, h3, h4⟩
              rw [e, hsd] at h3; cases h3⟩
          repeat (first | refine WL.move rfl rfl ?_ | refine WL.assign rfl rfl ?_ | refine W.seq ?_ | refine W.region ?_ | refine WL.nil ?_ | refine Post.next ?_ | refine Post.tail ?_ | refine W.cond_t rfl ?_ | refine W.cond_f rfl ?_ | refine W.block ?_ | refine W.skip ?_ | refine W.exit ?_ | refine W.ret ?_ | refine Post.block_exit ?_ | refine Post.block_other rfl ?_ | refine Post.then_exit ?_ | refine Post.then_ret ?_ | refine Post.block_ret ?_ | refine Post.block_normal ?_ | refine WL.lenS (tyS rfl) rfl rfl ?_ | refine WL.lenStr und9 rfl rfl ?_ | refine WL.fieldAddr (tyF rfl) rfl rfl ?_ | refine WL.not rfl rfl ?_ | refine WL.pick_t rfl rfl rfl ?_ | refine WL.pick_f rfl rfl rfl ?_ | refine WL.want rfl rfl ?_ | refine WL.skip rfl rfl rfl rfl ?_ | refine WL.extract rfl rfl rfl ?_)
          refine WL.callV _ (fnT rfl) rfl (args1 rfl) (keep_c w8 gw gt gc rw_ vt vc T C wm _ _ c.1 hm8 hTM.ents hCb hk hD hc4) (by rintro e w' ⟨rfl, _⟩; exact ⟨_, rfl⟩) rfl ?_
          rintro v we ⟨hv, wm', hme, hke, hrel⟩
          cases hv
          refine ⟨trivial, ?_⟩
          have hse := hrel.size
          repeat (first | refine WL.move rfl rfl ?_ | refine WL.assign rfl rfl ?_ | refine W.seq ?_ | refine W.region ?_ | refine WL.nil ?_ | refine Post.next ?_ | refine Post.tail ?_ | refine W.cond_t rfl ?_ | refine W.cond_f rfl ?_ | refine W.block ?_ | refine W.skip ?_ | refine W.exit ?_ | refine W.ret ?_ | refine Post.block_exit ?_ | refine Post.block_other rfl ?_ | refine Post.then_exit ?_ | refine Post.then_ret ?_ | refine Post.block_ret ?_ | refine Post.block_normal ?_ | refine WL.lenS (tyS rfl) rfl rfl ?_ | refine WL.lenStr und9 rfl rfl ?_ | refine WL.fieldAddr (tyF rfl) rfl rfl ?_ | refine WL.not rfl rfl ?_ | refine WL.pick_t rfl rfl rfl ?_ | refine WL.pick_f rfl rfl rfl ?_ | refine WL.want rfl rfl ?_ | refine WL.skip rfl rfl rfl rfl ?_ | refine WL.extract rfl rfl rfl ?_)
          exact Post.round4 rem' wm' rs rv ⟨rfl, rfl, rfl, rfl, rfl, rfl, rfl, trivial⟩ ⟨hme, hke, ⟨_, hi8.krel hrel (by omega) hm8.nt⟩, ⟨(List.nodup_cons.1 hnn).2, hrs'⟩, hri', hro8.kept hrel.grown (.inr (own_ne_map hro8 hm8.mw)), by omega, hub8.krel hrel (by omega), by omega⟩ (by omega)
        | false =>
          have hk' : KFin (InP T C) (fun k => k ∈ keys C ∨ (k ∈ keys T ∧ k ∉ keys rem' ∧ seedB T Te ent k = true)) (keys wm) := hk.congr (fun q => by
            rw [hkm]
            constructor
            · rintro (h | ⟨h1, h2, h3⟩)
              · exact .inl h
              · refine .inr ⟨h1, fun h => h.elim (fun e => ?_) h2, h3⟩
                rw [e, hsd] at h3; cases h3
            · rintro (h | ⟨h1, h2, h3⟩)
              · exact .inl h
              · exact .inr ⟨h1, fun h => h2 (.inr h), h3⟩)
          cases hab : abv T c.1 with
          | none =>
            have hri' : RI T Te ent rem' rs := ⟨fun p d => by
              rw [hri.mem, hkm]
              constructor
              · rintro ⟨h1, h2, h3, h4⟩; exact ⟨h1, fun h => h2 (.inr h), h3, h4⟩
              · rintro ⟨h1, h2, h3, h4⟩
                refine ⟨h1, fun h => h.elim (fun e => ?_) h2, h3, h4⟩
                rw [e, hab] at h4; cases h4⟩
            repeat (first | refine WL.move rfl rfl ?_ | refine WL.assign rfl rfl ?_ | refine W.seq ?_ | refine W.region ?_ | refine WL.nil ?_ | refine Post.next ?_ | refine Post.tail ?_ | refine W.cond_t rfl ?_ | refine W.cond_f rfl ?_ | refine W.block ?_ | refine W.skip ?_ | refine W.exit ?_ | refine W.ret ?_ | refine Post.block_exit ?_ | refine Post.block_other rfl ?_ | refine Post.then_exit ?_ | refine Post.then_ret ?_ | refine Post.block_ret ?_ | refine Post.block_normal ?_ | refine WL.lenS (tyS rfl) rfl rfl ?_ | refine WL.lenStr und9 rfl rfl ?_ | refine WL.fieldAddr (tyF rfl) rfl rfl ?_ | refine WL.not rfl rfl ?_ | refine WL.pick_t rfl rfl rfl ?_ | refine WL.pick_f rfl rfl rfl ?_ | refine WL.want rfl rfl ?_ | refine WL.skip rfl rfl rfl rfl ?_ | refine WL.extract rfl rfl rfl ?_)
            exact Post.round4 rem' wm rs rv ⟨rfl, rfl, rfl, rfl, rfl, rfl, rfl, trivial⟩ ⟨hm8, hk', ⟨_, hi8⟩, ⟨(List.nodup_cons.1 hnn).2, hrs'⟩, hri', hro8, by omega, hub8, by omega⟩ (by omega)
          | some d =>
            have hri' : RI T Te ent rem' (rs ++ [(c.1, d)]) := ⟨fun p d' => by
              rw [List.mem_append, List.mem_singleton, hri.mem, hkm]
              constructor
              · rintro (⟨h1, h2, h3, h4⟩ | h)
                · exact ⟨h1, fun h => h2 (.inr h), h3, h4⟩
                · cases h; exact ⟨hcT, hc1, hsd, hab⟩
              · rintro ⟨h1, h2, h3, h4⟩
                by_cases e : p = c.1
                · subst e; rw [hab] at h4; cases h4; exact .inr rfl
                · exact .inl ⟨h1, fun h => h.elim e h2, h3, h4⟩⟩
            repeat (first | refine WL.move rfl rfl ?_ | refine WL.assign rfl rfl ?_ | refine W.seq ?_ | refine W.region ?_ | refine WL.nil ?_ | refine Post.next ?_ | refine Post.tail ?_ | refine W.cond_t rfl ?_ | refine W.cond_f rfl ?_ | refine W.block ?_ | refine W.skip ?_ | refine W.exit ?_ | refine W.ret ?_ | refine Post.block_exit ?_ | refine Post.block_other rfl ?_ | refine Post.then_exit ?_ | refine Post.then_ret ?_ | refine Post.block_ret ?_ | refine Post.block_normal ?_ | refine WL.lenS (tyS rfl) rfl rfl ?_ | refine WL.lenStr und9 rfl rfl ?_ | refine WL.fieldAddr (tyF rfl) rfl rfl ?_ | refine WL.not rfl rfl ?_ | refine WL.pick_t rfl rfl rfl ?_ | refine WL.pick_f rfl rfl rfl ?_ | refine WL.want rfl rfl ?_ | refine WL.skip rfl rfl rfl rfl ?_ | refine WL.extract rfl rfl rfl ?_)
            refine WL.build (parts2 rfl rfl) (build88 _ _) rfl ?_
            refine WL.buildSlice2 make84 rfl rfl ?_
            intro w9 hg9 hz9 hr9
            refine ⟨trivial, ?_⟩
            have hro9 := ownsRow_up hro8 (Up.grown hg9)
            refine WL.appendL make84 rfl rfl hro9 hr9 rfl (by simp [Value.oneCell']) (by omega) (by omega) (by omega) rfl ?_
            intro rv' wA hownA hgA hlocA hsomeA
            refine ⟨trivial, ?_⟩
            have hmA : KM wA gw gt gc rw_ vt vc T C wm := by
              have h9 := hm8.up (Up.grown hg9)
              have hlt : ∀ g, g < it2 → (some g ≠ rv.ownBlock) := fun g hg e => by have := (hro9.lt g e.symm).1; omega
              have h3 := hm8.bw.lt
              refine ⟨h9.bw.kept hgA (fun e => hlt gw hgwl e.symm), h9.bt.kept hgA (fun e => hlt gt (by omega) e.symm), h9.bc.kept hgA (fun e => hlt gc hgcl e.symm), h9.mt.own hro9 hgA, h9.mc.own hro9 hgA, h9.mw.kept hgA (own_ne_map hro9 h9.mw), h9.tr, h9.nt, h9.nc, h9.lo⟩
            have huA : Up w wA := (hub8.trans (Up.grown hg9)).step hgA (by intro j hj; have := (hro9.lt j hj).1; omega)
            have hiA : Iter wA it2 vt T rem' (some c) := by
              have h9 : Iter w9 it2 vt T rem' (some c) := hi8.of_blocks ((Up.grown hg9).block hi8.it_lt) (fun g e => by
                rcases hm8.mt with ⟨e', _⟩ | ⟨g', e', h⟩
                · rw [e'] at e; cases e
                · rw [e'] at e; cases e; exact (Up.grown hg9).block h.lt_size)
              refine h9.of_blocks (hgA.block it2 h9.it_lt (fun e => ?_)) (fun g e => ?_)
              · obtain ⟨a, b, c', d', hi⟩ := h9.at
                rcases hro9.2 with ⟨rfl, _⟩ | ⟨g, cap, cur, rfl, _, hgg, _⟩
                · simp [Value.ownBlock] at e
                · simp [Value.ownBlock] at e
                  subst e
                  rw [hi] at hgg
                  cases hgg
              · rcases h9.map with ⟨e', _⟩ | ⟨g', e', h⟩
                · rw [e'] at e; cases e
                · rw [e'] at e; cases e
                  exact hgA.block _ h.lt_size (fun e => own_ne_map hro9 h e.symm)
            have hsA := hgA.size
            repeat (first | refine WL.move rfl rfl ?_ | refine WL.assign rfl rfl ?_ | refine W.seq ?_ | refine W.region ?_ | refine WL.nil ?_ | refine Post.next ?_ | refine Post.tail ?_ | refine W.cond_t rfl ?_ | refine W.cond_f rfl ?_ | refine W.block ?_ | refine W.skip ?_ | refine W.exit ?_ | refine W.ret ?_ | refine Post.block_exit ?_ | refine Post.block_other rfl ?_ | refine Post.then_exit ?_ | refine Post.then_ret ?_ | refine Post.block_ret ?_ | refine Post.block_normal ?_ | refine WL.lenS (tyS rfl) rfl rfl ?_ | refine WL.lenStr und9 rfl rfl ?_ | refine WL.fieldAddr (tyF rfl) rfl rfl ?_ | refine WL.not rfl rfl ?_ | refine WL.pick_t rfl rfl rfl ?_ | refine WL.pick_f rfl rfl rfl ?_ | refine WL.want rfl rfl ?_ | refine WL.skip rfl rfl rfl rfl ?_ | refine WL.extract rfl rfl rfl ?_)
            exact Post.round4 rem' wm (rs ++ [(c.1, d)]) rv' ⟨rfl, rfl, rfl, rfl, rfl, rfl, rfl, trivial⟩ ⟨hmA, hk', ⟨_, hiA⟩, ⟨(List.nodup_cons.1 hnn).2, hrs'⟩, hri', own88_snoc hownA, by simp; omega, huA, by omega⟩ (by omega)
  · intro c rem' wb hperm hgb hzb hib
    refine ⟨trivial, ?_⟩
    have hmb := hm.iter hit.at hgb
    have hub := hu.step hgb (by intro j hj; cases hj; omega)
    have hkp := keys_perm hperm
    have hlp := hperm.length_eq
    simp only [List.length_cons] at hlp
    have hnn := hkp.nodup_iff.1 hrn
    have hc1 : c.1 ∉ keys rem' := (List.nodup_cons.1 hnn).1
    have hkm : ∀ k, k ∈ keys rem ↔ k = c.1 ∨ k ∈ keys rem' := fun k => by rw [hkp.mem_iff]; simp [keys]
    have hcC : c.1 ∈ keys C := hrs _ ((hkm _).2 (.inl rfl))
    have hD : ∀ q, (q ∈ keys C ∧ q ∉ keys rem') ↔ (q ∈ keys C ∧ q ∉ keys rem) ∨ q = c.1 := fun q => by
      rw [hkm]
      constructor
      · rintro ⟨h1, h2⟩
        by_cases e : q = c.1
        · exact .inr e
        · exact .inl ⟨h1, fun h => h.elim e h2⟩
      · rintro (⟨h1, h2⟩ | rfl)
        · exact ⟨h1, fun h => h2 (.inr h)⟩
        · exact ⟨hcC, hc1⟩
    repeat (first | refine WL.move rfl rfl ?_ | refine WL.assign rfl rfl ?_ | refine W.seq ?_ | refine W.region ?_ | refine WL.nil ?_ | refine Post.next ?_ | refine Post.tail ?_ | refine W.cond_t rfl ?_ | refine W.cond_f rfl ?_ | refine W.block ?_ | refine W.skip ?_ | refine W.exit ?_ | refine W.ret ?_ | refine Post.block_exit ?_ | refine Post.block_other rfl ?_ | refine Post.then_exit ?_ | refine Post.then_ret ?_ | refine Post.block_ret ?_ | refine Post.block_normal ?_ | refine WL.lenS (tyS rfl) rfl rfl ?_ | refine WL.lenStr und9 rfl rfl ?_ | refine WL.fieldAddr (tyF rfl) rfl rfl ?_ | refine WL.not rfl rfl ?_ | refine WL.pick_t rfl rfl rfl ?_ | refine WL.pick_f rfl rfl rfl ?_ | refine WL.want rfl rfl ?_ | refine WL.skip rfl rfl rfl rfl ?_ | refine WL.extract rfl rfl rfl ?_)
    refine WL.entry rfl (fun _ e => e) hib rfl ?_
    repeat (first | refine WL.move rfl rfl ?_ | refine WL.assign rfl rfl ?_ | refine W.seq ?_ | refine W.region ?_ | refine WL.nil ?_ | refine Post.next ?_ | refine Post.tail ?_ | refine W.cond_t rfl ?_ | refine W.cond_f rfl ?_ | refine W.block ?_ | refine W.skip ?_ | refine W.exit ?_ | refine W.ret ?_ | refine Post.block_exit ?_ | refine Post.block_other rfl ?_ | refine Post.then_exit ?_ | refine Post.then_ret ?_ | refine Post.block_ret ?_ | refine Post.block_normal ?_ | refine WL.lenS (tyS rfl) rfl rfl ?_ | refine WL.lenStr und9 rfl rfl ?_ | refine WL.fieldAddr (tyF rfl) rfl rfl ?_ | refine WL.not rfl rfl ?_ | refine WL.pick_t rfl rfl rfl ?_ | refine WL.pick_f rfl rfl rfl ?_ | refine WL.want rfl rfl ?_ | refine WL.skip rfl rfl rfl rfl ?_ | refine WL.extract rfl rfl rfl ?_)
    refine WL.callV _ (fnT rfl) rfl (args1 rfl) (keep_c wb gw gt gc rw_ vt vc T C wm _ _ c.1 hmb hTM.ents hCb hk hD (hCk _ hcC)) (by rintro e w' ⟨rfl, _⟩; exact ⟨_, rfl⟩) rfl ?_
    rintro v we ⟨hv, wm', hme, hke, hrel⟩
    cases hv
    refine ⟨trivial, ?_⟩
    repeat (first | refine WL.move rfl rfl ?_ | refine WL.assign rfl rfl ?_ | refine W.seq ?_ | refine W.region ?_ | refine WL.nil ?_ | refine Post.next ?_ | refine Post.tail ?_ | refine W.cond_t rfl ?_ | refine W.cond_f rfl ?_ | refine W.block ?_ | refine W.skip ?_ | refine W.exit ?_ | refine W.ret ?_ | refine Post.block_exit ?_ | refine Post.block_other rfl ?_ | refine Post.then_exit ?_ | refine Post.then_ret ?_ | refine Post.block_ret ?_ | refine Post.block_normal ?_ | refine WL.lenS (tyS rfl) rfl rfl ?_ | refine WL.lenStr und9 rfl rfl ?_ | refine WL.fieldAddr (tyF rfl) rfl rfl ?_ | refine WL.not rfl rfl ?_ | refine WL.pick_t rfl rfl rfl ?_ | refine WL.pick_f rfl rfl rfl ?_ | refine WL.want rfl rfl ?_ | refine WL.skip rfl rfl rfl rfl ?_ | refine WL.extract rfl rfl rfl ?_)
    exact Post.round2 rem' wm' ⟨rfl, rfl, rfl, rfl, rfl, rfl, trivial⟩ ⟨hme, hke, ⟨_, hib.krel hrel (by omega) hM.nc⟩, (List.nodup_cons.1 hnn).2, fun k hk => hrs k ((hkm k).2 (.inr hk)), hub.krel hrel (by omega)⟩ (by omega)
end Go.Lx
