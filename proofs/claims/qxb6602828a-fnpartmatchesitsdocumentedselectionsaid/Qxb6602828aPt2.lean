import Derived.Test.Qxb6602828aPt1
namespace Go.Lx
open Go.Proofs Go.RowKit

theorem spl_all {cs vs : List Value} (h : vs.length = cs.length) : spl cs 0 vs = vs := by
  simp [spl, h]
theorem ElsV.one {w : World} {v : Value} {xs : List El} (h : ElsV w v xs) : v.oneCell' = true := by
  obtain ⟨a, c, rfl, _⟩ := h; rfl
theorem E1.ok.one {w : World} {e : E1} (h : e.ok w) : ∀ u ∈ e.cells, u.oneCell' = true := by
  intro u hu
  simp only [E1.cells, List.mem_cons, List.not_mem_nil, or_false] at hu
  rcases hu with rfl | rfl | rfl | rfl | rfl | rfl | rfl | rfl | rfl | rfl | rfl | rfl | rfl | rfl | rfl | rfl | rfl | rfl | rfl | rfl | rfl | rfl
  all_goals first | rfl | exact h.C.one | exact h.M.one | exact h.S.one | exact h.D.one | exact h.DS.one | exact h.Ab.one | exact h.R.one | exact h.KA.one
def z64 : List Value := [.string ⟨#[]⟩, .int .u8 0, .slice none 0 0, .slice none 0 0, .slice none 0 0, .slice none 0 0, .slice none 0 0, .string ⟨#[]⟩, .int .u64 0, .int .i64 0, .string ⟨#[]⟩, .string ⟨#[]⟩, .int .u64 0, .int .i64 0, .string ⟨#[]⟩, .slice none 0 0, .string ⟨#[]⟩, .int .u64 0, .int .i64 0, .string ⟨#[]⟩, .slice none 0 0, .slice none 0 0]
theorem zero64 : ZeroTy Try.prog 64 z64 := ZeroTy.of (z := .agg z64.toArray) (by kernel_rfl) rfl
def z66 : List Value := [.string ⟨#[]⟩, .int .u64 0, .int .i64 0, .string ⟨#[]⟩]
theorem zero66 : ZeroTy Try.prog 66 z66 := ZeroTy.of (z := .agg z66.toArray) (by kernel_rfl) rfl

section
variable {env : Env}
theorem parts4 {x0 x1 x2 x3 : Operand} {i0 i1 i2 i3 : Nat} {v0 v1 v2 v3 : Value} (h0 : ev env x0 = some v0) (h1 : ev env x1 = some v1) (h2 : ev env x2 = some v2) (h3 : ev env x3 = some v3) : ∀ ρ, Agrees ρ env → (#[(i0, x0), (i1, x1), (i2, x2), (i3, x3)].map fun p => (p.1, ρ p.2)) = #[(i0, v0), (i1, v1), (i2, v2), (i3, v3)] := fun ρ hρ => by simp [hρ x0 v0 h0, hρ x1 v1 h1, hρ x2 v2 h2, hρ x3 v3 h3]
theorem parts12 {x0 x1 x2 x3 x4 x5 x6 x7 x8 x9 x10 x11 : Operand} {v0 v1 v2 v3 v4 v5 v6 v7 v8 v9 v10 v11 : Value} (h0 : ev env x0 = some v0) (h1 : ev env x1 = some v1) (h2 : ev env x2 = some v2) (h3 : ev env x3 = some v3) (h4 : ev env x4 = some v4) (h5 : ev env x5 = some v5) (h6 : ev env x6 = some v6) (h7 : ev env x7 = some v7) (h8 : ev env x8 = some v8) (h9 : ev env x9 = some v9) (h10 : ev env x10 = some v10) (h11 : ev env x11 = some v11) :
    ∀ ρ, Agrees ρ env → (#[(0, x0), (1, x1), (2, x2), (3, x3), (4, x4), (5, x5), (6, x6), (7, x7), (8, x8), (9, x9), (10, x10), (11, x11)].map fun p => (p.1, ρ p.2)) = #[(0, v0), (1, v1), (2, v2), (3, v3), (4, v4), (5, v5), (6, v6), (7, v7), (8, v8), (9, v9), (10, v10), (11, v11)] := fun ρ hρ => by
  simp [hρ x0 v0 h0, hρ x1 v1 h1, hρ x2 v2 h2, hρ x3 v3 h3, hρ x4 v4 h4, hρ x5 v5 h5, hρ x6 v6 h6, hρ x7 v7 h7, hρ x8 v8 h8, hρ x9 v9 h9, hρ x10 v10 h10, hρ x11 v11 h11]
end

theorem build66 (s : Stm) (w : World) : (Instr.build 66 #[(0, .string s.o), (1, .int .u64 s.n), (2, .int .i64 s.w), (3, .string s.h)]).run Try.prog w = .ok (.agg s.cells.toArray) w := by kernel_rfl
theorem stamp_c (w : World) (s : Stm) : Calls Try.prog 41 #[.agg s.cells.toArray] w fun e w' => e = .returned (.agg s.cells.toArray) ∧ Up w w' := by
  refine Calls.of_W (args := [.agg s.cells.toArray]) Try.func41 rfl rfl rfl ?_
  repeat (first | refine WL.move rfl rfl ?_ | refine WL.assign rfl rfl ?_ | refine W.seq ?_ | refine W.region ?_ | refine WL.nil ?_ | refine Post.next ?_ | refine Post.tail ?_ | refine W.cond_t rfl ?_ | refine W.cond_f rfl ?_ | refine W.block ?_ | refine W.skip ?_ | refine W.exit ?_ | refine W.ret ?_ | refine Post.block_exit ?_ | refine Post.block_other rfl ?_ | refine Post.then_exit ?_ | refine Post.then_ret ?_ | refine Post.block_ret ?_ | refine Post.block_normal ?_ | refine WL.lenS (tyS rfl) rfl rfl ?_ | refine WL.lenStr und9 rfl rfl ?_ | refine WL.fieldAddr (tyF rfl) rfl rfl ?_ | refine WL.not rfl rfl ?_ | refine WL.pick_t rfl rfl rfl ?_ | refine WL.pick_f rfl rfl rfl ?_ | refine WL.want rfl rfl ?_ | refine WL.skip rfl rfl rfl rfl ?_ | refine WL.extract rfl rfl rfl ?_)
  refine WL.box (cs := s.cells) rfl rfl rfl ?_
  intro w1 hg1 hz1 hr1
  refine ⟨trivial, ?_⟩
  refine WL.alloc zero66 rfl ?_
  intro w2 hg2 hz2 hr2
  refine ⟨trivial, ?_⟩
  have hr1' := hr1.up (Up.grown hg2)
  repeat (first | refine WL.move rfl rfl ?_ | refine WL.assign rfl rfl ?_ | refine W.seq ?_ | refine W.region ?_ | refine WL.nil ?_ | refine Post.next ?_ | refine Post.tail ?_ | refine W.cond_t rfl ?_ | refine W.cond_f rfl ?_ | refine W.block ?_ | refine W.skip ?_ | refine W.exit ?_ | refine W.ret ?_ | refine Post.block_exit ?_ | refine Post.block_other rfl ?_ | refine Post.then_exit ?_ | refine Post.then_ret ?_ | refine Post.block_ret ?_ | refine Post.block_normal ?_ | refine WL.lenS (tyS rfl) rfl rfl ?_ | refine WL.lenStr und9 rfl rfl ?_ | refine WL.fieldAddr (tyF rfl) rfl rfl ?_ | refine WL.not rfl rfl ?_ | refine WL.pick_t rfl rfl rfl ?_ | refine WL.pick_f rfl rfl rfl ?_ | refine WL.want rfl rfl ?_ | refine WL.skip rfl rfl rfl rfl ?_ | refine WL.extract rfl rfl rfl ?_)
  refine WL.load (o' := 0) (tyP rfl) rfl (fun _ e => e) (hr1'.cell rfl) (by first | omega | (simp; done) | (simp; omega)) rfl ?_
  repeat (first | refine WL.move rfl rfl ?_ | refine WL.assign rfl rfl ?_ | refine W.seq ?_ | refine W.region ?_ | refine WL.nil ?_ | refine Post.next ?_ | refine Post.tail ?_ | refine W.cond_t rfl ?_ | refine W.cond_f rfl ?_ | refine W.block ?_ | refine W.skip ?_ | refine W.exit ?_ | refine W.ret ?_ | refine Post.block_exit ?_ | refine Post.block_other rfl ?_ | refine Post.then_exit ?_ | refine Post.then_ret ?_ | refine Post.block_ret ?_ | refine Post.block_normal ?_ | refine WL.lenS (tyS rfl) rfl rfl ?_ | refine WL.lenStr und9 rfl rfl ?_ | refine WL.fieldAddr (tyF rfl) rfl rfl ?_ | refine WL.not rfl rfl ?_ | refine WL.pick_t rfl rfl rfl ?_ | refine WL.pick_f rfl rfl rfl ?_ | refine WL.want rfl rfl ?_ | refine WL.skip rfl rfl rfl rfl ?_ | refine WL.extract rfl rfl rfl ?_)
  refine WL.load (o' := 1) (tyP rfl) rfl (fun _ e => e) (hr1'.cell rfl) (by first | omega | (simp; done) | (simp; omega)) rfl ?_
  repeat (first | refine WL.move rfl rfl ?_ | refine WL.assign rfl rfl ?_ | refine W.seq ?_ | refine W.region ?_ | refine WL.nil ?_ | refine Post.next ?_ | refine Post.tail ?_ | refine W.cond_t rfl ?_ | refine W.cond_f rfl ?_ | refine W.block ?_ | refine W.skip ?_ | refine W.exit ?_ | refine W.ret ?_ | refine Post.block_exit ?_ | refine Post.block_other rfl ?_ | refine Post.then_exit ?_ | refine Post.then_ret ?_ | refine Post.block_ret ?_ | refine Post.block_normal ?_ | refine WL.lenS (tyS rfl) rfl rfl ?_ | refine WL.lenStr und9 rfl rfl ?_ | refine WL.fieldAddr (tyF rfl) rfl rfl ?_ | refine WL.not rfl rfl ?_ | refine WL.pick_t rfl rfl rfl ?_ | refine WL.pick_f rfl rfl rfl ?_ | refine WL.want rfl rfl ?_ | refine WL.skip rfl rfl rfl rfl ?_ | refine WL.extract rfl rfl rfl ?_)
  refine WL.load (o' := 2) (tyP rfl) rfl (fun _ e => e) (hr1'.cell rfl) (by first | omega | (simp; done) | (simp; omega)) rfl ?_
  repeat (first | refine WL.move rfl rfl ?_ | refine WL.assign rfl rfl ?_ | refine W.seq ?_ | refine W.region ?_ | refine WL.nil ?_ | refine Post.next ?_ | refine Post.tail ?_ | refine W.cond_t rfl ?_ | refine W.cond_f rfl ?_ | refine W.block ?_ | refine W.skip ?_ | refine W.exit ?_ | refine W.ret ?_ | refine Post.block_exit ?_ | refine Post.block_other rfl ?_ | refine Post.then_exit ?_ | refine Post.then_ret ?_ | refine Post.block_ret ?_ | refine Post.block_normal ?_ | refine WL.lenS (tyS rfl) rfl rfl ?_ | refine WL.lenStr und9 rfl rfl ?_ | refine WL.fieldAddr (tyF rfl) rfl rfl ?_ | refine WL.not rfl rfl ?_ | refine WL.pick_t rfl rfl rfl ?_ | refine WL.pick_f rfl rfl rfl ?_ | refine WL.want rfl rfl ?_ | refine WL.skip rfl rfl rfl rfl ?_ | refine WL.extract rfl rfl rfl ?_)
  refine WL.load (o' := 3) (tyP rfl) rfl (fun _ e => e) (hr1'.cell rfl) (by first | omega | (simp; done) | (simp; omega)) rfl ?_
  repeat (first | refine WL.move rfl rfl ?_ | refine WL.assign rfl rfl ?_ | refine W.seq ?_ | refine W.region ?_ | refine WL.nil ?_ | refine Post.next ?_ | refine Post.tail ?_ | refine W.cond_t rfl ?_ | refine W.cond_f rfl ?_ | refine W.block ?_ | refine W.skip ?_ | refine W.exit ?_ | refine W.ret ?_ | refine Post.block_exit ?_ | refine Post.block_other rfl ?_ | refine Post.then_exit ?_ | refine Post.then_ret ?_ | refine Post.block_ret ?_ | refine Post.block_normal ?_ | refine WL.lenS (tyS rfl) rfl rfl ?_ | refine WL.lenStr und9 rfl rfl ?_ | refine WL.fieldAddr (tyF rfl) rfl rfl ?_ | refine WL.not rfl rfl ?_ | refine WL.pick_t rfl rfl rfl ?_ | refine WL.pick_f rfl rfl rfl ?_ | refine WL.want rfl rfl ?_ | refine WL.skip rfl rfl rfl rfl ?_ | refine WL.extract rfl rfl rfl ?_)
  refine WL.build (parts4 rfl rfl rfl rfl) (build66 s) rfl ?_
  refine WL.storeAgg (vs := s.cells) (o' := 0) (tyA rfl) rfl rfl rfl (by simp [Stm.cells, Value.oneCell']) hr2 rfl (by simp [Stm.cells, z66]) ?_
  intro w3 hg3 hz3 hr3
  refine ⟨trivial, ?_⟩
  rw [spl_all (by simp [Stm.cells, z66])] at hr3
  have hu : Up w w3 := ((Up.grown hg1).trans (Up.grown hg2)).step hg3 (by intro j hj; cases hj; omega)
  repeat (first | refine WL.move rfl rfl ?_ | refine WL.assign rfl rfl ?_ | refine W.seq ?_ | refine W.region ?_ | refine WL.nil ?_ | refine Post.next ?_ | refine Post.tail ?_ | refine W.cond_t rfl ?_ | refine W.cond_f rfl ?_ | refine W.block ?_ | refine W.skip ?_ | refine W.exit ?_ | refine W.ret ?_ | refine Post.block_exit ?_ | refine Post.block_other rfl ?_ | refine Post.then_exit ?_ | refine Post.then_ret ?_ | refine Post.block_ret ?_ | refine Post.block_normal ?_ | refine WL.lenS (tyS rfl) rfl rfl ?_ | refine WL.lenStr und9 rfl rfl ?_ | refine WL.fieldAddr (tyF rfl) rfl rfl ?_ | refine WL.not rfl rfl ?_ | refine WL.pick_t rfl rfl rfl ?_ | refine WL.pick_f rfl rfl rfl ?_ | refine WL.want rfl rfl ?_ | refine WL.skip rfl rfl rfl rfl ?_ | refine WL.extract rfl rfl rfl ?_)
  exact Post.retAgg rfl (tyA rfl) rfl hr3 rfl ⟨rfl, hu⟩

/-! ### A tree's entry -/
structure TE where
  C : Value
  M : Value
  S : Value
  D : Value
  DS : Value
  Ab : Value
  R : Value
  KA : Value
def TE.cells (t : TE) (e : E1) : List Value := [.int .u8 e.kind, t.C, t.M, t.S, t.D, t.DS, .string e.sa.o, .int .u64 e.sa.n, .int .i64 e.sa.w, .string e.sa.h, .string e.sb.o, .int .u64 e.sb.n, .int .i64 e.sb.w, .string e.sb.h, t.Ab, .string e.sc.o, .int .u64 e.sc.n, .int .i64 e.sc.w, .string e.sc.h, t.R, t.KA]
structure TVs (w : World) (t : TE) (e : E1) : Prop where
  C : ElsV w t.C e.xC ∧ isNilV t.C = isNilV e.vC
  M : ElsV w t.M e.xM ∧ isNilV t.M = isNilV e.vM
  S : ElsV w t.S e.xS ∧ isNilV t.S = isNilV e.vS
  D : ElsV w t.D e.xD ∧ isNilV t.D = isNilV e.vD
  DS : ElsV w t.DS e.xDS ∧ isNilV t.DS = isNilV e.vDS
  Ab : ElsV w t.Ab e.xAb ∧ isNilV t.Ab = isNilV e.vAb
  R : ElsV w t.R e.xR ∧ isNilV t.R = isNilV e.vR
  KA : ElsV w t.KA e.xKA ∧ isNilV t.KA = isNilV e.vKA
theorem TVs.up {w w' : World} {t : TE} {e : E1} (h : TVs w t e) (hu : Up w w') : TVs w' t e :=
  ⟨⟨h.C.1.up hu, h.C.2⟩, ⟨h.M.1.up hu, h.M.2⟩, ⟨h.S.1.up hu, h.S.2⟩, ⟨h.D.1.up hu, h.D.2⟩, ⟨h.DS.1.up hu, h.DS.2⟩, ⟨h.Ab.1.up hu, h.Ab.2⟩, ⟨h.R.1.up hu, h.R.2⟩, ⟨h.KA.1.up hu, h.KA.2⟩⟩
def EntIs (w : World) (u : Value) (e : E1) : Prop := ∃ t : TE, u = .agg (t.cells e).toArray ∧ TVs w t e
theorem EntIs.up {w w' : World} {u : Value} {e : E1} (h : EntIs w u e) (hu : Up w w') : EntIs w' u e := by
  obtain ⟨t, rfl, h⟩ := h; exact ⟨t, rfl, h.up hu⟩
theorem TVs.one {w : World} {t : TE} {e : E1} (h : TVs w t e) : ∀ u ∈ t.cells e, u.oneCell' = true := by
  intro u hu
  simp only [TE.cells, List.mem_cons, List.not_mem_nil, or_false] at hu
  rcases hu with rfl | rfl | rfl | rfl | rfl | rfl | rfl | rfl | rfl | rfl | rfl | rfl | rfl | rfl | rfl | rfl | rfl | rfl | rfl | rfl | rfl
  all_goals first | rfl | exact h.C.1.one | exact h.M.1.one | exact h.S.1.one | exact h.D.1.one | exact h.DS.1.one | exact h.Ab.1.one | exact h.R.1.one | exact h.KA.1.one
theorem EntIs.ok {w : World} {u : Value} {e : E1} (h : EntIs w u e) : EntOk u := by
  obtain ⟨t, rfl, h⟩ := h
  exact ⟨t.cells e, rfl, rfl, h.one⟩

theorem build68f (k : Int) (sa sb sc : Stm) (a0 a1 a2 a3 a4 a5 a6 a7 : Option Addr) (l0 l1 l2 l3 l4 l5 l6 l7 c0 c1 c2 c3 c4 c5 c6 c7 : Nat) (w : World) :
    (Instr.build 68 #[(0, .int .u8 k), (1, .slice a0 l0 c0), (2, .slice a1 l1 c1), (3, .slice a2 l2 c2), (4, .slice a3 l3 c3), (5, .slice a4 l4 c4), (6, .agg sa.cells.toArray), (7, .agg sb.cells.toArray), (8, .slice a5 l5 c5), (9, .agg sc.cells.toArray), (10, .slice a6 l6 c6), (11, .slice a7 l7 c7)]).run Try.prog w
      = .ok (.agg [.int .u8 k, .slice a0 l0 c0, .slice a1 l1 c1, .slice a2 l2 c2, .slice a3 l3 c3, .slice a4 l4 c4, .string sa.o, .int .u64 sa.n, .int .i64 sa.w, .string sa.h, .string sb.o, .int .u64 sb.n, .int .i64 sb.w, .string sb.h, .slice a5 l5 c5, .string sc.o, .int .u64 sc.n, .int .i64 sc.w, .string sc.h, .slice a6 l6 c6, .slice a7 l7 c7].toArray) w := by kernel_rfl
end Go.Lx
