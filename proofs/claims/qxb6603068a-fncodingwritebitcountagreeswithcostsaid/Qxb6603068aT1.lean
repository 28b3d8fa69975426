import Derived.Test.Qxb6603068aS7
namespace Go.Lx
open Go.Proofs Go.RowKit

section ops
variable {P : Program} {ops : Array Oper} {Q : Exit → Act → World → Prop} {S : World → Prop} {r : List (Oper × Bool)} {b : Bool} {n : Nat} {env : Env} {w : World}
variable {d : Nat} {ty : TypeId} {pos : String} {aft : Array Edge}
/-- 'a[:j]' of an array by its pointer. -/
theorem WL.sliceAH {t mm e kk : Nat} {x hi : Operand} {bk o : Nat} {kd : IntKind} {j : Int} (ht : ArrTy P t mm e kk) (hx : ev env x = some (.pointer (some ⟨bk, o, none⟩))) (hj : ev env hi = some (.int kd j)) (hb : 0 ≤ j ∧ j ≤ (mm : Int)) (hd : Nat.blt d n = true)
    (k : WL P ops Q S r n ((d, .slice (some ⟨bk, o, none⟩) j.toNat mm) :: env) w) :
    WL P ops Q S (({ dst := some d, op := .slice t x none (some hi) none, type := ty, pos := pos, after := aft, guard := none }, b) :: r) n env w :=
  WL.pure rfl hd (v := .slice (some ⟨bk, o, none⟩) j.toNat mm) (fun w' ρ hρ => by
    simp [execOp, hρ x _ hx, hρ hi _ hj, Instr.sliceAt, Instr.sliceBounds, Instr.sliceBound, Instr.sureAddr, asIntOf, run_underlying ht.und, hb.1, hb.2, ht.size, add_none]) k
/-- 'a[i:j]' of an array by its pointer. -/
theorem WL.sliceALH {t mm e kk : Nat} {x lo hi : Operand} {bk o : Nat} {kd kd' : IntKind} {i j : Int} (ht : ArrTy P t mm e kk) (hx : ev env x = some (.pointer (some ⟨bk, o, none⟩))) (hi' : ev env lo = some (.int kd i)) (hj : ev env hi = some (.int kd' j)) (hb : 0 ≤ i ∧ i ≤ j ∧ j ≤ (mm : Int)) (hd : Nat.blt d n = true)
    (k : WL P ops Q S r n ((d, .slice (some ⟨bk, if mm = i.toNat then o else o + i.toNat * kk, none⟩) (j.toNat - i.toNat) (mm - i.toNat)) :: env) w) :
    WL P ops Q S (({ dst := some d, op := .slice t x (some lo) (some hi) none, type := ty, pos := pos, after := aft, guard := none }, b) :: r) n env w :=
  WL.pure rfl hd (v := .slice (some ⟨bk, if mm = i.toNat then o else o + i.toNat * kk, none⟩) (j.toNat - i.toNat) (mm - i.toNat)) (fun w' ρ hρ => by
    obtain ⟨I, rfl⟩ := Int.eq_ofNat_of_zero_le hb.1
    obtain ⟨J, rfl⟩ := Int.eq_ofNat_of_zero_le (show 0 ≤ j by omega)
    have h1 : I ≤ J := by omega
    have h2 : J ≤ mm := by omega
    by_cases hc : mm = I
    · subst hc
      simp [execOp, hρ x _ hx, hρ lo _ hi', hρ hi _ hj, Instr.sliceAt, Instr.sliceBounds, Instr.sliceBound, Instr.sureAddr, asIntOf, run_underlying ht.und, h1, h2, ht.size, add_none]
    · simp [execOp, hρ x _ hx, hρ lo _ hi', hρ hi _ hj, Instr.sliceAt, Instr.sliceBounds, Instr.sliceBound, Instr.sureAddr, asIntOf, run_underlying ht.und, h1, h2, ht.size, add_none, hc]) k
/-- 's[i:j]' of a slice that is not nil. -/
theorem WL.sliceSLH {t e kk : Nat} {x lo hi : Operand} {bk o m c : Nat} {kd kd' : IntKind} {i j : Int} (ht : SliceTy P t e kk) (hx : ev env x = some (.slice (some ⟨bk, o, none⟩) m c)) (hi' : ev env lo = some (.int kd i)) (hj : ev env hi = some (.int kd' j)) (hb : 0 ≤ i ∧ i ≤ j ∧ j ≤ (c : Int)) (hd : Nat.blt d n = true)
    (k : WL P ops Q S r n ((d, .slice (some ⟨bk, if c = i.toNat then o else o + i.toNat * kk, none⟩) (j.toNat - i.toNat) (c - i.toNat)) :: env) w) :
    WL P ops Q S (({ dst := some d, op := .slice t x (some lo) (some hi) none, type := ty, pos := pos, after := aft, guard := none }, b) :: r) n env w :=
  WL.pure rfl hd (v := .slice (some ⟨bk, if c = i.toNat then o else o + i.toNat * kk, none⟩) (j.toNat - i.toNat) (c - i.toNat)) (fun w' ρ hρ => by
    obtain ⟨I, rfl⟩ := Int.eq_ofNat_of_zero_le hb.1
    obtain ⟨J, rfl⟩ := Int.eq_ofNat_of_zero_le (show 0 ≤ j by omega)
    have h1 : I ≤ J := by omega
    have h2 : J ≤ c := by omega
    by_cases hc : c = I
    · subst hc
      simp [execOp, hρ x _ hx, hρ lo _ hi', hρ hi _ hj, Instr.sliceAt, Instr.slice, Instr.sliceBounds, Instr.sliceBound, asIntOf, run_underlying ht.und, h1, h2, ht.size, add_none]
    · simp [execOp, hρ x _ hx, hρ lo _ hi', hρ hi _ hj, Instr.sliceAt, Instr.slice, Instr.sliceBounds, Instr.sliceBound, asIntOf, run_underlying ht.und, h1, h2, ht.size, add_none, hc]) k
/-- 's[:j]' of a slice that is not nil. -/
theorem WL.sliceSH {t e kk : Nat} {x hi : Operand} {bk o m c : Nat} {kd' : IntKind} {j : Int} (ht : SliceTy P t e kk) (hx : ev env x = some (.slice (some ⟨bk, o, none⟩) m c)) (hj : ev env hi = some (.int kd' j)) (hb : 0 ≤ j ∧ j ≤ (c : Int)) (hd : Nat.blt d n = true)
    (k : WL P ops Q S r n ((d, .slice (some ⟨bk, o, none⟩) j.toNat c) :: env) w) :
    WL P ops Q S (({ dst := some d, op := .slice t x none (some hi) none, type := ty, pos := pos, after := aft, guard := none }, b) :: r) n env w :=
  WL.pure rfl hd (v := .slice (some ⟨bk, o, none⟩) j.toNat c) (fun w' ρ hρ => by
    simp [execOp, hρ x _ hx, hρ hi _ hj, Instr.sliceAt, Instr.slice, Instr.sliceBounds, Instr.sliceBound, asIntOf, run_underlying ht.und, hb.1, hb.2, ht.size, add_none]) k
/-- 'copy' of as many as the target holds, within memory that is known. -/
theorem WL.copy {t t' e : Nat} {x y : Operand} {g o o1 bk o2 m c c' : Nat} {cs vs : List Value} {tt : TypeId} (ht : SliceTy P t e 1) (hx : ev env x = some (.slice (some ⟨g, o, none⟩) m c)) (hy : ev env y = some (.slice (some ⟨bk, o2, none⟩) m c'))
    (hl : vs.length = m) (h1 : ∀ u ∈ vs, u.oneCell' = true) (hv : ∀ i u, vs[i]? = some u → w.cell? ⟨bk, o2 + i, none⟩ = some u) (hr : Row w g cs tt) (ho : o = o1) (hf : o1 + m ≤ cs.length) (hd : Nat.blt d n = true)
    (k : ∀ w1, w.grownBy w1 (some g) → w1.heap.size = w.heap.size → Row w1 g (spl cs o1 vs) tt → S w1 ∧ WL P ops Q S r n ((d, .int .i64 (m : Int)) :: env) w1) :
    WL P ops Q S (({ dst := some d, op := .call { callee := .builtin .copy, args := #[x, y], argTypes := #[t, t'] }, type := ty, pos := pos, after := aft, guard := none }, false) :: r) n env w := by
  subst ho
  subst hl
  refine WL.eff rfl hd (fun v w1 => v = .int .i64 (vs.length : Int) ∧ w1 = w.setRow g (spl cs o vs).toArray) (fun ρ hρ => ⟨_, _, ?_, rfl, rfl⟩) ?_
  · have hst := run_storeCells_at P g o tt vs 0 cs.toArray w hr (by simpa using hf) h1
    simp only [Nat.add_zero] at hst
    have hfc := run_firstCells_some (P := P) w 1 vs.length ⟨bk, o2, none⟩ vs.length c' vs (by simp) (fun i u hu => by rw [add_none]; exact hv i u hu)
    simp [execOp, resolve, invoke, builtin, hρ x _ hx, hρ y _ hy, Builtin.copy_, run_underlying ht.und, ht.size, Builtin.lenOf, hfc, goInt] at hst ⊢
    rw [hst]
    simp [spl]
  · rintro v w1 ⟨rfl, rfl⟩
    exact k _ (setRow_grown _) (by simp [World.setRow]) (setRow_heap w g _ _ _ _ hr)
end ops

/-! ### What a bit writer's writes may turn -/
structure BStep (b : Nat) (w : World) (v : Value) (w' : World) (v' : Value) : Prop where
  os : w'.os = w.os
  tape : w'.tape = w.tape
  output : w'.output = w.output
  size : w.heap.size ≤ w'.heap.size
  blk : ∀ i, i < w.heap.size → i ≠ b → v.ownBlock ≠ some i → w'.heap[i]? = w.heap[i]?
  l : v'.ownBlock = v.ownBlock ∨ ∀ k, v'.ownBlock = some k → w.heap.size ≤ k
theorem BStep.refl (b : Nat) (w : World) (v : Value) : BStep b w v w v := ⟨rfl, rfl, rfl, Nat.le_refl _, fun _ _ _ _ => rfl, .inl rfl⟩
theorem BStep.trans {b : Nat} {w w1 w2 : World} {v v1 v2 : Value} (h : BStep b w v w1 v1) (k : BStep b w1 v1 w2 v2) : BStep b w v w2 v2 := by
  refine ⟨k.os.trans h.os, k.tape.trans h.tape, k.output.trans h.output, Nat.le_trans h.size k.size, fun i hi hb hv => ?_, ?_⟩
  · rw [k.blk i (Nat.lt_of_lt_of_le hi h.size) hb (fun e => ?_), h.blk i hi hb hv]
    rcases h.l with h' | h'
    · exact hv (by rw [← h', e])
    · have := h' i e; omega
  · rcases k.l with k' | k'
    · rcases h.l with h' | h'
      · exact .inl (k'.trans h')
      · exact .inr (fun g hg => h' g (by rw [← k']; exact hg))
    · exact .inr (fun g hg => Nat.le_trans h.size (k' g hg))
theorem BStep.none {b : Nat} {w w1 w2 : World} {v v1 : Value} (h : BStep b w v w1 v1) (hg : w1.grownBy w2 none) : BStep b w v w2 v1 :=
  h.trans ⟨hg.os, hg.tape, hg.output, hg.size, fun i hi _ _ => hg.block i hi (by simp), .inl rfl⟩
theorem BStep.new {b g : Nat} {w w1 w2 : World} {v v1 : Value} (h : BStep b w v w1 v1) (hg : w1.grownBy w2 (some g)) (hge : w.heap.size ≤ g) : BStep b w v w2 v1 :=
  ⟨hg.os.trans h.os, hg.tape.trans h.tape, hg.output.trans h.output, Nat.le_trans h.size hg.size, fun i hi hb hv => by
    rw [hg.block i (Nat.lt_of_lt_of_le hi h.size) (fun e => by have := Option.some.inj e; omega), h.blk i hi hb hv], h.l⟩
theorem BStep.own {b : Nat} {w w1 w2 : World} {v v1 : Value} (h : BStep b w v w1 v1) (hg : w1.grownBy w2 (some b)) : BStep b w v w2 v1 :=
  h.trans ⟨hg.os, hg.tape, hg.output, hg.size, fun i hi hb _ => hg.block i hi (fun e => hb (Option.some.inj e)), .inl rfl⟩
theorem BStep.app {b : Nat} {w wr wb wc : World} {v u u' : Value} (h : BStep b w v wr u) (hgb : wr.grownBy wb Option.none) (hgc : wb.grownBy wc u.ownBlock) (hl : u'.ownBlock = u.ownBlock ∨ u'.ownBlock = some wb.heap.size) : BStep b w v wc u' := by
  refine h.trans ⟨hgc.os.trans hgb.os, hgc.tape.trans hgb.tape, hgc.output.trans hgb.output, Nat.le_trans hgb.size hgc.size, fun i hi _ hv => ?_, ?_⟩
  · rw [hgc.block i (Nat.lt_of_lt_of_le hi hgb.size) (fun e => hv e.symm), hgb.block i hi (by simp)]
  · rcases hl with hl | hl
    · exact .inl hl
    · refine .inr (fun k hk => ?_)
      rw [hl] at hk
      cases hk
      exact hgb.size
theorem BStep.drew {b : Nat} {w w1 : World} {v v1 : Value} (h : BStep b w v w1 v1) : BStep b w v w1.drew v1 := h.none (grown_drew w1)
theorem Row.bstep {b : Nat} {w w' : World} {v v' : Value} {g : Nat} {cs : List Value} {t : TypeId} (h : Row w g cs t) (hs : BStep b w v w' v') (hb : g ≠ b) (hv : v.ownBlock ≠ some g) : Row w' g cs t := by
  unfold Row; rw [hs.blk g h.lt hb hv]; exact h
end Go.Lx
