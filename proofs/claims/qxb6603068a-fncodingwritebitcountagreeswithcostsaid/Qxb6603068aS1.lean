import Derived.Test.Qxb6603068aTypes
import Derived.Test.Qxb6603068aPlan2
namespace Go.Lx
open Go.Proofs Go.RowKit

section
variable {P : Program} {Q : Exit → Act → World → Prop} {n : Nat} {env : Env} {w : World}
theorem W.seq_join {x y : Code} (env1 : Env) (R : World → Prop) (h : W P x (Exit.then (fun a w => St n env1 a ∧ R w) Q) n env w)
    (hy : ∀ w', R w' → W P y Q n env1 w') : W P (.seq x y) Q n env w :=
  ⟨fun a ha => wp_seq (wp_mono (h.out a ha) (fun e a w q => by
    cases e with
    | normal => exact (hy w q.2).out a q.1
    | _ => exact q))⟩
theorem Post.join {env1 : Env} {R : World → Prop} (hs : SubL env env1) (h : R w) : Post (Exit.then (fun a w => St n env1 a ∧ R w) Q) .normal n env w := ⟨fun _ ha => ⟨ha.sub hs, h⟩⟩
theorem W.seq_joinE {α : Type} {x y : Code} (env1 : α → Env) (R : α → World → Prop) (h : W P x (Exit.then (fun a w => ∃ z, St n (env1 z) a ∧ R z w) Q) n env w)
    (hy : ∀ z w', R z w' → W P y Q n (env1 z) w') : W P (.seq x y) Q n env w :=
  ⟨fun a ha => wp_seq (wp_mono (h.out a ha) (fun e a w q => by
    cases e with
    | normal => obtain ⟨z, h1, h2⟩ := q; exact (hy z w h2).out a h1
    | _ => exact q))⟩
theorem Post.joinE {α : Type} {env1 : α → Env} {R : α → World → Prop} (z : α) (hs : SubL env (env1 z)) (h : R z w) : Post (Exit.then (fun a w => ∃ z, St n (env1 z) a ∧ R z w) Q) .normal n env w := ⟨fun _ ha => ⟨z, ha.sub hs, h⟩⟩
end

/-! ### Slices of numbers -/
structure Ints (k : IntKind) (w : World) (a : Option Addr) (xs : List Int) : Prop where
  ad : xs ≠ [] → ∃ bk o, a = some ⟨bk, o, none⟩ ∧ ∀ i x, xs[i]? = some x → w.cell? ⟨bk, o + i, none⟩ = some (.int k x)
theorem Ints.up {k : IntKind} {w w' : World} {a : Option Addr} {xs : List Int} (h : Ints k w a xs) (hu : Up w w') : Ints k w' a xs :=
  ⟨fun hne => by
    obtain ⟨bk, o, rfl, hc⟩ := h.ad hne
    exact ⟨bk, o, rfl, fun i x hx => hu.cell (hc i x hx)⟩⟩
theorem Ints.get {k : IntKind} {w : World} {a : Option Addr} {xs : List Int} (h : Ints k w a xs) {j : Nat} (hk : j < xs.length) :
    ∃ bk o, a = some ⟨bk, o, none⟩ ∧ ∀ i, (hi : i < xs.length) → w.cell? ⟨bk, o + i, none⟩ = some (.int k xs[i]) := by
  obtain ⟨bk, o, e, hc⟩ := h.ad (by intro e; subst e; simp at hk)
  exact ⟨bk, o, e, fun i hi => hc i _ (List.getElem?_eq_getElem hi)⟩
def IntsV (k : IntKind) (w : World) (v : Value) (xs : List Int) : Prop := ∃ a c, v = .slice a xs.length c ∧ Ints k w a xs ∧ xs.length ≤ c
theorem IntsV.up {k : IntKind} {w w' : World} {v : Value} {xs : List Int} (h : IntsV k w v xs) (hu : Up w w') : IntsV k w' v xs := by
  obtain ⟨a, c, rfl, he, hc⟩ := h
  exact ⟨a, c, rfl, he.up hu, hc⟩
theorem IntsV_own {k : IntKind} {w : World} {B e : Nat} {v : Value} {xs : List Int} (h : w.ownsRow B e 1 v xs.length (xs.map (Value.int k))) : IntsV k w v xs := by
  obtain ⟨hl, h2⟩ := h
  rcases h2 with ⟨rfl, h0⟩ | ⟨g, cap, cur, rfl, hb, hg, hn, hm, hs, ht⟩
  · have : xs = [] := List.eq_nil_of_length_eq_zero h0
    subst this
    exact ⟨none, 0, rfl, ⟨fun h => absurd rfl h⟩, Nat.le_refl _⟩
  · refine ⟨some ⟨g, 0, none⟩, cap, rfl, ⟨fun _ => ⟨g, 0, rfl, fun i x hx => ?_⟩⟩, hn⟩
    have hi : i < xs.length := (List.getElem?_eq_some_iff.1 hx).1
    have h1 : (xs.map (Value.int k))[i]? = some (.int k x) := by rw [List.getElem?_map, hx]; rfl
    rw [← ht, List.getElem?_take_of_lt (by omega)] at h1
    have hrow : Row w g cur.toList e := by simpa [Row] using hg
    simpa using hrow.cell h1
theorem own_int_snoc {k : IntKind} {w : World} {B e : Nat} {v : Value} {xs : List Int} {x : Int} (h : w.ownsRow B e 1 v (xs.length + 1) (xs.map (Value.int k) ++ [.int k x])) : w.ownsRow B e 1 v (xs ++ [x]).length ((xs ++ [x]).map (Value.int k)) := by simpa using h
theorem make26 : MakeTy Try.prog 26 42 1 2 [.int .u16 0] := MakeTy.of (z := .int .u16 0) (by kernel_rfl) (by kernel_rfl) (by kernel_rfl) rfl rfl (by omega)
theorem make23 : MakeTy Try.prog 23 5 1 1 [.int .u8 0] := MakeTy.of (z := .int .u8 0) (by kernel_rfl) (by kernel_rfl) (by kernel_rfl) rfl rfl (by omega)

/-! ### append, with the place of the new row -/
section
variable {P : Program} (w : World)
theorem run_append_loc (base : Nat) (t ty e : TypeId) (i : TypeInfo) (z : Value) (size bytes : Nat) (ht : P.underlying t = some (.slice e)) (hi : P.info? e = some i) (hz : i.zero = some z)
    (hsize : i.size = size) (hby : i.bytes = bytes) (hzs : z.cells.size = size) (hsz : 0 < size)
    (v : Value) (n : Nat) (xs : List Value) (hown : w.ownsRow base e size v n xs)
    (a : Addr) (m c : Nat) (news : List Value) (hm : m = 1) (hl : news.length = m * size) (hnews : ∀ j u, news[j]? = some u → w.cell? (a.add j) = some u) (h1 : ∀ u ∈ news, u.oneCell' = true)
    (h63 : n + m ≤ maxLen) (hbytes : (n + m) * bytes ≤ 140737488355328) (hbase : base ≤ w.heap.size) :
    ∃ v' w', (Builtin.append_ #[t, t] ty #[v, .slice (some a) m c]).run P w = .ok v' w' ∧ w'.ownsRow base e size v' (n + m) (xs ++ news) ∧ w.grownBy w' v.ownBlock ∧ (v'.ownBlock = v.ownBlock ∨ v'.ownBlock = some w.heap.size) ∧ v'.ownBlock.isSome := by
  obtain ⟨v', w', hr, h2, h3, h4⟩ := run_append_own (P := P) w base t ty e i z size bytes ht hi hz hsize hby hzs hsz v n xs hown a m c news hl hnews h1 h63 hbytes hbase
  have hne : v' ≠ .slice none 0 0 := fun e => by have := (h4.1 e).2; omega
  have hsome : v'.ownBlock.isSome := by
    rcases h2.2 with ⟨h, _⟩ | ⟨g, cap, cur, h, _⟩
    · exact absurd h hne
    · rw [h]; rfl
  refine ⟨v', w', hr, h2, h3, ?_, hsome⟩
  subst hsize
  subst hby
  have hsmall : n + m ≤ 9223372036854775807 := by simp only [maxLen] at h63; omega
  rcases hown.2 with ⟨rfl, rfl⟩ | ⟨g, cap, cur, rfl, hbg, hg, hnc, hcm, hcs, htake⟩
  · have hr' := run_append_nil (P := P) w t ty e i z ht hi hz a m c news hl hnews (by omega) (by omega) (by have hb := hbytes; simp only [Nat.zero_add] at hb; omega)
    rw [hr'] at hr
    cases hr
    exact .inr rfl
  · by_cases hroom : n + m ≤ cap
    · have hfit : n * i.size + news.length ≤ cur.size := by rw [hl, hcs, ← Nat.add_mul]; exact Nat.mul_le_mul_right _ hroom
      have hr' := run_append_room (P := P) w t ty e i ht hi g n cap cur hg a m c news hl hnews h1 hroom hfit
      rw [hr'] at hr
      cases hr
      exact .inl rfl
    · have holds : ∀ j u, xs[j]? = some u → w.cell? ((⟨g, 0, none⟩ : Addr).add j) = some u := hown.cells (g := g) rfl
      have hr' := run_append_grow (P := P) w t ty e i z ht hi hz ⟨g, 0, none⟩ n cap xs hown.1 holds a m c news hl hnews (by omega) (by omega) (growslice_fits (by omega) hbytes)
      rw [hr'] at hr
      cases hr
      exact .inr rfl
end
section effects
variable {P : Program} {ops : Array Oper} {Q : Exit → Act → World → Prop} {S : World → Prop} {r : List (Oper × Bool)} {n : Nat} {env : Env} {w : World}
variable {d : Nat} {ty : TypeId} {pos : String} {aft : Array Edge}
theorem WL.appendL {t e kk bytes : Nat} {zs : List Value} {s x : Operand} {v : Value} {m B h c : Nat} {xs news : List Value} {tt : TypeId} (ht : MakeTy P t e kk bytes zs) (hs : ev env s = some v) (hx : ev env x = some (.slice (some ⟨h, 0, none⟩) 1 c)) (hown : w.ownsRow B e kk v m xs)
    (hr : Row w h news tt) (hl : news.length = kk) (h1 : ∀ u ∈ news, u.oneCell' = true) (hm : (m + 1) * bytes ≤ 140737488355328) (hm' : m + 1 ≤ 9223372036854775807) (hB : B ≤ w.heap.size) (hd : Nat.blt d n = true)
    (k : ∀ v' w1, w1.ownsRow B e kk v' (m + 1) (xs ++ news) → w.grownBy w1 v.ownBlock → (v'.ownBlock = v.ownBlock ∨ v'.ownBlock = some w.heap.size) → v'.ownBlock.isSome → S w1 ∧ WL P ops Q S r n ((d, v') :: env) w1) :
    WL P ops Q S (({ dst := some d, op := .call { callee := .builtin .append, args := #[s, x], argTypes := #[t, t] }, type := ty, pos := pos, after := aft, guard := none }, false) :: r) n env w := by
  obtain ⟨hu, i, z, hi, hz, hsz, hby, hc, hzl, h0⟩ := ht
  obtain ⟨v', w', hrun, ho, hg, hn, hn'⟩ := run_append_loc (P := P) w B t ty e i z kk bytes hu hi hz hsz hby (by rw [hc]; simpa using hzl) h0 v m xs hown ⟨h, 0, none⟩ 1 c news rfl (by omega) (fun j u hj => by rw [add_none, Nat.zero_add]; exact hr.cell hj) h1 (by simp only [maxLen]; omega) hm hB
  refine WL.eff rfl hd (fun u w1 => u = v' ∧ w1 = w') (fun ρ hρ => ⟨_, _, ?_, rfl, rfl⟩) ?_
  · simp [execOp, resolve, invoke, builtin, hρ s _ hs, hρ x _ hx, hrun]
  · rintro u w1 ⟨rfl, rfl⟩
    exact k _ _ ho hg hn hn'
end effects

/-- What appends to one slice may turn: its own row, and what is new. -/
structure OwnStep (w : World) (v : Value) (w' : World) (v' : Value) : Prop where
  g : w.grownBy w' v.ownBlock
  l : v'.ownBlock = v.ownBlock ∨ ∀ k, v'.ownBlock = some k → w.heap.size ≤ k
theorem OwnStep.refl (w : World) (v : Value) : OwnStep w v w v := ⟨⟨rfl, rfl, rfl, Nat.le_refl _, fun _ _ _ => rfl⟩, .inl rfl⟩
theorem OwnStep.trans {w w1 w2 : World} {v v1 v2 : Value} (h : OwnStep w v w1 v1) (k : OwnStep w1 v1 w2 v2) : OwnStep w v w2 v2 := by
  refine ⟨⟨k.g.os.trans h.g.os, k.g.tape.trans h.g.tape, k.g.output.trans h.g.output, Nat.le_trans h.g.size k.g.size, fun i hi hne => ?_⟩, ?_⟩
  · rw [k.g.block i (Nat.lt_of_lt_of_le hi h.g.size) (fun e => ?_), h.g.block i hi hne]
    rcases h.l with h' | h'
    · exact hne (by rw [e, h'])
    · have := h' i e.symm; omega
  · rcases k.l with k' | k'
    · rcases h.l with h' | h'
      · exact .inl (k'.trans h')
      · exact .inr (fun g hg => h' g (by rw [← k']; exact hg))
    · exact .inr (fun g hg => Nat.le_trans h.g.size (k' g hg))
theorem OwnStep.app {w wr wb wc : World} {v u u' : Value} (h : OwnStep w v wr u) (hgb : wr.grownBy wb none) (hgc : wb.grownBy wc u.ownBlock) (hl : u'.ownBlock = u.ownBlock ∨ u'.ownBlock = some wb.heap.size) : OwnStep w v wc u' := by
  refine h.trans ⟨⟨hgc.os.trans hgb.os, hgc.tape.trans hgb.tape, hgc.output.trans hgb.output, Nat.le_trans hgb.size hgc.size, fun i hi hne => ?_⟩, ?_⟩
  · rw [hgc.block i (Nat.lt_of_lt_of_le hi hgb.size) hne, hgb.block i hi (by simp)]
  · rcases hl with hl | hl
    · exact .inl hl
    · refine .inr (fun k hk => ?_)
      rw [hl] at hk
      cases hk
      exact hgb.size
theorem OwnStep.drew {w wr : World} {v u : Value} (h : OwnStep w v wr u) : OwnStep w v wr.drew u := h.trans ⟨⟨rfl, rfl, rfl, Nat.le_refl _, fun _ _ _ => rfl⟩, .inl rfl⟩
theorem cloneB_c (w : World) (v : Value) (xs : List Int) (hx : IntsV .u8 w v xs) (hl : xs.length ≤ 1048576) :
    Calls Try.prog 10 #[v] w fun r w' => ∃ v', r = .returned v' ∧ w'.ownsRow w.heap.size 5 1 v' xs.length (xs.map (Value.int .u8)) ∧ Up w w' := by
  obtain ⟨a, c, rfl, hx, hc⟩ := hx
  refine Calls.of_W (args := [.slice a xs.length c]) Try.func10 rfl rfl rfl ?_
  repeat (first | refine WL.move rfl rfl ?_ | refine WL.assign rfl rfl ?_ | refine W.seq ?_ | refine W.region ?_ | refine WL.nil ?_ | refine Post.next ?_ | refine Post.tail ?_ | refine W.cond_t rfl ?_ | refine W.cond_f rfl ?_ | refine W.block ?_ | refine W.skip ?_ | refine W.exit ?_ | refine W.ret ?_ | refine Post.block_exit ?_ | refine Post.block_other rfl ?_ | refine Post.then_exit ?_ | refine Post.then_ret ?_ | refine Post.block_ret ?_ | refine Post.block_normal ?_ | refine WL.lenS (tyS rfl) rfl rfl ?_ | refine WL.lenStr und9 rfl rfl ?_ | refine WL.fieldAddr (tyF rfl) rfl rfl ?_ | refine WL.not rfl rfl ?_ | refine WL.pick_t rfl rfl rfl ?_ | refine WL.pick_f rfl rfl rfl ?_ | refine WL.want rfl rfl ?_ | refine WL.skip rfl rfl rfl rfl ?_ | refine WL.extract rfl rfl rfl ?_)
  refine WL.eqNilS (tyS rfl) rfl rfl ?_
  cases a with
  | none =>
    have hn : xs = [] := by
      by_cases h : xs = []
      · exact h
      · obtain ⟨bk, o, e, _⟩ := hx.ad h; simp at e
    subst hn
    repeat (first | refine WL.move rfl rfl ?_ | refine WL.assign rfl rfl ?_ | refine W.seq ?_ | refine W.region ?_ | refine WL.nil ?_ | refine Post.next ?_ | refine Post.tail ?_ | refine W.cond_t rfl ?_ | refine W.cond_f rfl ?_ | refine W.block ?_ | refine W.skip ?_ | refine W.exit ?_ | refine W.ret ?_ | refine Post.block_exit ?_ | refine Post.block_other rfl ?_ | refine Post.then_exit ?_ | refine Post.then_ret ?_ | refine Post.block_ret ?_ | refine Post.block_normal ?_ | refine WL.lenS (tyS rfl) rfl rfl ?_ | refine WL.lenStr und9 rfl rfl ?_ | refine WL.fieldAddr (tyF rfl) rfl rfl ?_ | refine WL.not rfl rfl ?_ | refine WL.pick_t rfl rfl rfl ?_ | refine WL.pick_f rfl rfl rfl ?_ | refine WL.want rfl rfl ?_ | refine WL.skip rfl rfl rfl rfl ?_ | refine WL.extract rfl rfl rfl ?_)
    exact Post.ret1 rfl rfl ⟨_, rfl, World.ownsRow_nil _ _ _ _, Up.refl _⟩
  | some ad =>
    repeat (first | refine WL.move rfl rfl ?_ | refine WL.assign rfl rfl ?_ | refine W.seq ?_ | refine W.region ?_ | refine WL.nil ?_ | refine Post.next ?_ | refine Post.tail ?_ | refine W.cond_t rfl ?_ | refine W.cond_f rfl ?_ | refine W.block ?_ | refine W.skip ?_ | refine W.exit ?_ | refine W.ret ?_ | refine Post.block_exit ?_ | refine Post.block_other rfl ?_ | refine Post.then_exit ?_ | refine Post.then_ret ?_ | refine Post.block_ret ?_ | refine Post.block_normal ?_ | refine WL.lenS (tyS rfl) rfl rfl ?_ | refine WL.lenStr und9 rfl rfl ?_ | refine WL.fieldAddr (tyF rfl) rfl rfl ?_ | refine WL.not rfl rfl ?_ | refine WL.pick_t rfl rfl rfl ?_ | refine WL.pick_f rfl rfl rfl ?_ | refine WL.want rfl rfl ?_ | refine WL.skip rfl rfl rfl rfl ?_ | refine WL.extract rfl rfl rfl ?_)
    refine WL.make make23 rfl rfl (Nat.le_refl _) (by omega) (by omega) rfl ?_
    intro w1 cs hg hz hcl _ hrow
    refine ⟨trivial, ?_⟩
    repeat (first | refine WL.move rfl rfl ?_ | refine WL.assign rfl rfl ?_ | refine W.seq ?_ | refine W.region ?_ | refine WL.nil ?_ | refine Post.next ?_ | refine Post.tail ?_ | refine W.cond_t rfl ?_ | refine W.cond_f rfl ?_ | refine W.block ?_ | refine W.skip ?_ | refine W.exit ?_ | refine W.ret ?_ | refine Post.block_exit ?_ | refine Post.block_other rfl ?_ | refine Post.then_exit ?_ | refine Post.then_ret ?_ | refine Post.block_ret ?_ | refine Post.block_normal ?_ | refine WL.lenS (tyS rfl) rfl rfl ?_ | refine WL.lenStr und9 rfl rfl ?_ | refine WL.fieldAddr (tyF rfl) rfl rfl ?_ | refine WL.not rfl rfl ?_ | refine WL.pick_t rfl rfl rfl ?_ | refine WL.pick_f rfl rfl rfl ?_ | refine WL.want rfl rfl ?_ | refine WL.skip rfl rfl rfl rfl ?_ | refine WL.extract rfl rfl rfl ?_)
    have hu1 : Up w w1 := Up.grown hg
    refine W.loop2 (fun (k : Nat) (_ : List Value) => [(0, .slice (some ad) xs.length c), (3, .slice (some ⟨w.heap.size, 0, none⟩) xs.length xs.length), (4, .int .i64 k)])
      (fun k cur w' => k ≤ xs.length ∧ Row w' w.heap.size cur 5 ∧ cur.length = xs.length ∧ (∀ i x, i < k → xs[i]? = some x → cur[i]? = some (.int .u8 x)) ∧ Up w w') (fun k _ => xs.length - k) 0 cs ⟨rfl, rfl, rfl, trivial⟩ ⟨by omega, hrow, by simpa using hcl, by intro i x h; omega, hu1⟩ ?_
    rintro k cur w2 ⟨hk, hr2, hcl2, hc2, hu2⟩
    repeat (first | refine WL.move rfl rfl ?_ | refine WL.assign rfl rfl ?_ | refine W.seq ?_ | refine W.region ?_ | refine WL.nil ?_ | refine Post.next ?_ | refine Post.tail ?_ | refine W.cond_t rfl ?_ | refine W.cond_f rfl ?_ | refine W.block ?_ | refine W.skip ?_ | refine W.exit ?_ | refine W.ret ?_ | refine Post.block_exit ?_ | refine Post.block_other rfl ?_ | refine Post.then_exit ?_ | refine Post.then_ret ?_ | refine Post.block_ret ?_ | refine Post.block_normal ?_ | refine WL.lenS (tyS rfl) rfl rfl ?_ | refine WL.lenStr und9 rfl rfl ?_ | refine WL.fieldAddr (tyF rfl) rfl rfl ?_ | refine WL.not rfl rfl ?_ | refine WL.pick_t rfl rfl rfl ?_ | refine WL.pick_f rfl rfl rfl ?_ | refine WL.want rfl rfl ?_ | refine WL.skip rfl rfl rfl rfl ?_ | refine WL.extract rfl rfl rfl ?_)
    refine WL.lss rfl rfl rfl (fun hlt => ?_) (fun hge => ?_)
    · have hk' : k < xs.length := by omega
      obtain ⟨bk, o, e, hcell⟩ := (hx.up hu2).get hk'
      cases e
      repeat (first | refine WL.move rfl rfl ?_ | refine WL.assign rfl rfl ?_ | refine W.seq ?_ | refine W.region ?_ | refine WL.nil ?_ | refine Post.next ?_ | refine Post.tail ?_ | refine W.cond_t rfl ?_ | refine W.cond_f rfl ?_ | refine W.block ?_ | refine W.skip ?_ | refine W.exit ?_ | refine W.ret ?_ | refine Post.block_exit ?_ | refine Post.block_other rfl ?_ | refine Post.then_exit ?_ | refine Post.then_ret ?_ | refine Post.block_ret ?_ | refine Post.block_normal ?_ | refine WL.lenS (tyS rfl) rfl rfl ?_ | refine WL.lenStr und9 rfl rfl ?_ | refine WL.fieldAddr (tyF rfl) rfl rfl ?_ | refine WL.not rfl rfl ?_ | refine WL.pick_t rfl rfl rfl ?_ | refine WL.pick_f rfl rfl rfl ?_ | refine WL.want rfl rfl ?_ | refine WL.skip rfl rfl rfl rfl ?_ | refine WL.extract rfl rfl rfl ?_ | refine WL.addI rfl rfl (by omega) rfl ?_ | refine WL.subI rfl rfl (by omega) rfl ?_ | refine WL.indexS (tyS rfl) rfl rfl (by omega) rfl ?_ | refine WL.indexA (tyR rfl) rfl rfl (by omega) rfl ?_)
      refine WL.load (o' := o + k) (tyP rfl) rfl (fun _ e => e) (hcell k hk') (by first | omega | (simp; done) | (simp; omega)) rfl ?_
      repeat (first | refine WL.move rfl rfl ?_ | refine WL.assign rfl rfl ?_ | refine W.seq ?_ | refine W.region ?_ | refine WL.nil ?_ | refine Post.next ?_ | refine Post.tail ?_ | refine W.cond_t rfl ?_ | refine W.cond_f rfl ?_ | refine W.block ?_ | refine W.skip ?_ | refine W.exit ?_ | refine W.ret ?_ | refine Post.block_exit ?_ | refine Post.block_other rfl ?_ | refine Post.then_exit ?_ | refine Post.then_ret ?_ | refine Post.block_ret ?_ | refine Post.block_normal ?_ | refine WL.lenS (tyS rfl) rfl rfl ?_ | refine WL.lenStr und9 rfl rfl ?_ | refine WL.fieldAddr (tyF rfl) rfl rfl ?_ | refine WL.not rfl rfl ?_ | refine WL.pick_t rfl rfl rfl ?_ | refine WL.pick_f rfl rfl rfl ?_ | refine WL.want rfl rfl ?_ | refine WL.skip rfl rfl rfl rfl ?_ | refine WL.extract rfl rfl rfl ?_ | refine WL.addI rfl rfl (by omega) rfl ?_ | refine WL.subI rfl rfl (by omega) rfl ?_ | refine WL.indexS (tyS rfl) rfl rfl (by omega) rfl ?_ | refine WL.indexA (tyR rfl) rfl rfl (by omega) rfl ?_)
      refine WL.store (o' := k) (tyP rfl) rfl rfl rfl hr2 (by first | omega | (simp; done) | (simp; omega)) (by omega) ?_
      intro w3 hg3 hz3 hr3
      have hu3 : Up w w3 := hu2.step hg3 (by intro j hj; cases hj; omega)
      refine ⟨trivial, ?_⟩
      repeat (first | refine WL.move rfl rfl ?_ | refine WL.assign rfl rfl ?_ | refine W.seq ?_ | refine W.region ?_ | refine WL.nil ?_ | refine Post.next ?_ | refine Post.tail ?_ | refine W.cond_t rfl ?_ | refine W.cond_f rfl ?_ | refine W.block ?_ | refine W.skip ?_ | refine W.exit ?_ | refine W.ret ?_ | refine Post.block_exit ?_ | refine Post.block_other rfl ?_ | refine Post.then_exit ?_ | refine Post.then_ret ?_ | refine Post.block_ret ?_ | refine Post.block_normal ?_ | refine WL.lenS (tyS rfl) rfl rfl ?_ | refine WL.lenStr und9 rfl rfl ?_ | refine WL.fieldAddr (tyF rfl) rfl rfl ?_ | refine WL.not rfl rfl ?_ | refine WL.pick_t rfl rfl rfl ?_ | refine WL.pick_f rfl rfl rfl ?_ | refine WL.want rfl rfl ?_ | refine WL.skip rfl rfl rfl rfl ?_ | refine WL.extract rfl rfl rfl ?_ | refine WL.addI rfl rfl (by omega) rfl ?_ | refine WL.subI rfl rfl (by omega) rfl ?_ | refine WL.indexS (tyS rfl) rfl rfl (by omega) rfl ?_ | refine WL.indexA (tyR rfl) rfl rfl (by omega) rfl ?_)
      have hfit : k + [Value.int .u8 xs[k]].length ≤ cur.length := by simp; omega
      refine Post.round2 (k + 1) (spl cur k [.int .u8 xs[k]]) ⟨rfl, rfl, (by first | rfl | (simp [look]; done) | (simp [look]; omega)), trivial⟩ ⟨by omega, hr3, by rw [spl_length _ _ _ hfit]; exact hcl2, ?_, hu3⟩ (by first | omega | (simp; done) | (simp; omega))
      intro i x hi hx'
      by_cases e : i < k
      · rw [spl_lt _ _ _ hfit (by omega)]
        exact hc2 i x e hx'
      · obtain rfl : i = k := by omega
        have hxe : xs[i] = x := by rw [List.getElem?_eq_getElem hk'] at hx'; simpa using hx'
        have h0 := spl_in cur i _ hfit (i := 0) (by simp)
        rw [← hxe]
        simpa using h0
    · repeat (first | refine WL.move rfl rfl ?_ | refine WL.assign rfl rfl ?_ | refine W.seq ?_ | refine W.region ?_ | refine WL.nil ?_ | refine Post.next ?_ | refine Post.tail ?_ | refine W.cond_t rfl ?_ | refine W.cond_f rfl ?_ | refine W.block ?_ | refine W.skip ?_ | refine W.exit ?_ | refine W.ret ?_ | refine Post.block_exit ?_ | refine Post.block_other rfl ?_ | refine Post.then_exit ?_ | refine Post.then_ret ?_ | refine Post.block_ret ?_ | refine Post.block_normal ?_ | refine WL.lenS (tyS rfl) rfl rfl ?_ | refine WL.lenStr und9 rfl rfl ?_ | refine WL.fieldAddr (tyF rfl) rfl rfl ?_ | refine WL.not rfl rfl ?_ | refine WL.pick_t rfl rfl rfl ?_ | refine WL.pick_f rfl rfl rfl ?_ | refine WL.want rfl rfl ?_ | refine WL.skip rfl rfl rfl rfl ?_ | refine WL.extract rfl rfl rfl ?_)
      have hcur : cur = xs.map (Value.int .u8) := by
        apply List.ext_getElem?
        intro i
        by_cases hi : i < xs.length
        · rw [hc2 i xs[i] (by omega) (List.getElem?_eq_getElem hi), List.getElem?_map, List.getElem?_eq_getElem hi]; rfl
        · rw [List.getElem?_eq_none (by omega), List.getElem?_eq_none (by simp; omega)]
      subst hcur
      exact Post.ret1 rfl rfl ⟨_, rfl, ⟨by simp, .inr ⟨w.heap.size, _, (xs.map (Value.int .u8)).toArray, rfl, Nat.le_refl _, hr2, Nat.le_refl _, by simp only [maxLen]; omega, by simp, List.take_of_length_le (by simp)⟩⟩, hu2⟩
theorem cloneU_c (w : World) (v : Value) (xs : List Int) (hx : IntsV .u16 w v xs) (hl : xs.length ≤ 1048576) :
    Calls Try.prog 11 #[v] w fun r w' => ∃ v', r = .returned v' ∧ w'.ownsRow w.heap.size 42 1 v' xs.length (xs.map (Value.int .u16)) ∧ Up w w' := by
  obtain ⟨a, c, rfl, hx, hc⟩ := hx
  refine Calls.of_W (args := [.slice a xs.length c]) Try.func11 rfl rfl rfl ?_
  repeat (first | refine WL.move rfl rfl ?_ | refine WL.assign rfl rfl ?_ | refine W.seq ?_ | refine W.region ?_ | refine WL.nil ?_ | refine Post.next ?_ | refine Post.tail ?_ | refine W.cond_t rfl ?_ | refine W.cond_f rfl ?_ | refine W.block ?_ | refine W.skip ?_ | refine W.exit ?_ | refine W.ret ?_ | refine Post.block_exit ?_ | refine Post.block_other rfl ?_ | refine Post.then_exit ?_ | refine Post.then_ret ?_ | refine Post.block_ret ?_ | refine Post.block_normal ?_ | refine WL.lenS (tyS rfl) rfl rfl ?_ | refine WL.lenStr und9 rfl rfl ?_ | refine WL.fieldAddr (tyF rfl) rfl rfl ?_ | refine WL.not rfl rfl ?_ | refine WL.pick_t rfl rfl rfl ?_ | refine WL.pick_f rfl rfl rfl ?_ | refine WL.want rfl rfl ?_ | refine WL.skip rfl rfl rfl rfl ?_ | refine WL.extract rfl rfl rfl ?_)
  refine WL.eqNilS (tyS rfl) rfl rfl ?_
  cases a with
  | none =>
    have hn : xs = [] := by
      by_cases h : xs = []
      · exact h
      · obtain ⟨bk, o, e, _⟩ := hx.ad h; simp at e
    subst hn
    repeat (first | refine WL.move rfl rfl ?_ | refine WL.assign rfl rfl ?_ | refine W.seq ?_ | refine W.region ?_ | refine WL.nil ?_ | refine Post.next ?_ | refine Post.tail ?_ | refine W.cond_t rfl ?_ | refine W.cond_f rfl ?_ | refine W.block ?_ | refine W.skip ?_ | refine W.exit ?_ | refine W.ret ?_ | refine Post.block_exit ?_ | refine Post.block_other rfl ?_ | refine Post.then_exit ?_ | refine Post.then_ret ?_ | refine Post.block_ret ?_ | refine Post.block_normal ?_ | refine WL.lenS (tyS rfl) rfl rfl ?_ | refine WL.lenStr und9 rfl rfl ?_ | refine WL.fieldAddr (tyF rfl) rfl rfl ?_ | refine WL.not rfl rfl ?_ | refine WL.pick_t rfl rfl rfl ?_ | refine WL.pick_f rfl rfl rfl ?_ | refine WL.want rfl rfl ?_ | refine WL.skip rfl rfl rfl rfl ?_ | refine WL.extract rfl rfl rfl ?_)
    exact Post.ret1 rfl rfl ⟨_, rfl, World.ownsRow_nil _ _ _ _, Up.refl _⟩
  | some ad =>
    repeat (first | refine WL.move rfl rfl ?_ | refine WL.assign rfl rfl ?_ | refine W.seq ?_ | refine W.region ?_ | refine WL.nil ?_ | refine Post.next ?_ | refine Post.tail ?_ | refine W.cond_t rfl ?_ | refine W.cond_f rfl ?_ | refine W.block ?_ | refine W.skip ?_ | refine W.exit ?_ | refine W.ret ?_ | refine Post.block_exit ?_ | refine Post.block_other rfl ?_ | refine Post.then_exit ?_ | refine Post.then_ret ?_ | refine Post.block_ret ?_ | refine Post.block_normal ?_ | refine WL.lenS (tyS rfl) rfl rfl ?_ | refine WL.lenStr und9 rfl rfl ?_ | refine WL.fieldAddr (tyF rfl) rfl rfl ?_ | refine WL.not rfl rfl ?_ | refine WL.pick_t rfl rfl rfl ?_ | refine WL.pick_f rfl rfl rfl ?_ | refine WL.want rfl rfl ?_ | refine WL.skip rfl rfl rfl rfl ?_ | refine WL.extract rfl rfl rfl ?_)
    refine WL.make make26 rfl rfl (Nat.le_refl _) (by omega) (by omega) rfl ?_
    intro w1 cs hg hz hcl _ hrow
    refine ⟨trivial, ?_⟩
    repeat (first | refine WL.move rfl rfl ?_ | refine WL.assign rfl rfl ?_ | refine W.seq ?_ | refine W.region ?_ | refine WL.nil ?_ | refine Post.next ?_ | refine Post.tail ?_ | refine W.cond_t rfl ?_ | refine W.cond_f rfl ?_ | refine W.block ?_ | refine W.skip ?_ | refine W.exit ?_ | refine W.ret ?_ | refine Post.block_exit ?_ | refine Post.block_other rfl ?_ | refine Post.then_exit ?_ | refine Post.then_ret ?_ | refine Post.block_ret ?_ | refine Post.block_normal ?_ | refine WL.lenS (tyS rfl) rfl rfl ?_ | refine WL.lenStr und9 rfl rfl ?_ | refine WL.fieldAddr (tyF rfl) rfl rfl ?_ | refine WL.not rfl rfl ?_ | refine WL.pick_t rfl rfl rfl ?_ | refine WL.pick_f rfl rfl rfl ?_ | refine WL.want rfl rfl ?_ | refine WL.skip rfl rfl rfl rfl ?_ | refine WL.extract rfl rfl rfl ?_)
    have hu1 : Up w w1 := Up.grown hg
    refine W.loop2 (fun (k : Nat) (_ : List Value) => [(0, .slice (some ad) xs.length c), (3, .slice (some ⟨w.heap.size, 0, none⟩) xs.length xs.length), (4, .int .i64 k)])
      (fun k cur w' => k ≤ xs.length ∧ Row w' w.heap.size cur 42 ∧ cur.length = xs.length ∧ (∀ i x, i < k → xs[i]? = some x → cur[i]? = some (.int .u16 x)) ∧ Up w w') (fun k _ => xs.length - k) 0 cs ⟨rfl, rfl, rfl, trivial⟩ ⟨by omega, hrow, by simpa using hcl, by intro i x h; omega, hu1⟩ ?_
    rintro k cur w2 ⟨hk, hr2, hcl2, hc2, hu2⟩
    repeat (first | refine WL.move rfl rfl ?_ | refine WL.assign rfl rfl ?_ | refine W.seq ?_ | refine W.region ?_ | refine WL.nil ?_ | refine Post.next ?_ | refine Post.tail ?_ | refine W.cond_t rfl ?_ | refine W.cond_f rfl ?_ | refine W.block ?_ | refine W.skip ?_ | refine W.exit ?_ | refine W.ret ?_ | refine Post.block_exit ?_ | refine Post.block_other rfl ?_ | refine Post.then_exit ?_ | refine Post.then_ret ?_ | refine Post.block_ret ?_ | refine Post.block_normal ?_ | refine WL.lenS (tyS rfl) rfl rfl ?_ | refine WL.lenStr und9 rfl rfl ?_ | refine WL.fieldAddr (tyF rfl) rfl rfl ?_ | refine WL.not rfl rfl ?_ | refine WL.pick_t rfl rfl rfl ?_ | refine WL.pick_f rfl rfl rfl ?_ | refine WL.want rfl rfl ?_ | refine WL.skip rfl rfl rfl rfl ?_ | refine WL.extract rfl rfl rfl ?_)
    refine WL.lss rfl rfl rfl (fun hlt => ?_) (fun hge => ?_)
    · have hk' : k < xs.length := by omega
      obtain ⟨bk, o, e, hcell⟩ := (hx.up hu2).get hk'
      cases e
      repeat (first | refine WL.move rfl rfl ?_ | refine WL.assign rfl rfl ?_ | refine W.seq ?_ | refine W.region ?_ | refine WL.nil ?_ | refine Post.next ?_ | refine Post.tail ?_ | refine W.cond_t rfl ?_ | refine W.cond_f rfl ?_ | refine W.block ?_ | refine W.skip ?_ | refine W.exit ?_ | refine W.ret ?_ | refine Post.block_exit ?_ | refine Post.block_other rfl ?_ | refine Post.then_exit ?_ | refine Post.then_ret ?_ | refine Post.block_ret ?_ | refine Post.block_normal ?_ | refine WL.lenS (tyS rfl) rfl rfl ?_ | refine WL.lenStr und9 rfl rfl ?_ | refine WL.fieldAddr (tyF rfl) rfl rfl ?_ | refine WL.not rfl rfl ?_ | refine WL.pick_t rfl rfl rfl ?_ | refine WL.pick_f rfl rfl rfl ?_ | refine WL.want rfl rfl ?_ | refine WL.skip rfl rfl rfl rfl ?_ | refine WL.extract rfl rfl rfl ?_ | refine WL.addI rfl rfl (by omega) rfl ?_ | refine WL.subI rfl rfl (by omega) rfl ?_ | refine WL.indexS (tyS rfl) rfl rfl (by omega) rfl ?_ | refine WL.indexA (tyR rfl) rfl rfl (by omega) rfl ?_)
      refine WL.load (o' := o + k) (tyP rfl) rfl (fun _ e => e) (hcell k hk') (by first | omega | (simp; done) | (simp; omega)) rfl ?_
      repeat (first | refine WL.move rfl rfl ?_ | refine WL.assign rfl rfl ?_ | refine W.seq ?_ | refine W.region ?_ | refine WL.nil ?_ | refine Post.next ?_ | refine Post.tail ?_ | refine W.cond_t rfl ?_ | refine W.cond_f rfl ?_ | refine W.block ?_ | refine W.skip ?_ | refine W.exit ?_ | refine W.ret ?_ | refine Post.block_exit ?_ | refine Post.block_other rfl ?_ | refine Post.then_exit ?_ | refine Post.then_ret ?_ | refine Post.block_ret ?_ | refine Post.block_normal ?_ | refine WL.lenS (tyS rfl) rfl rfl ?_ | refine WL.lenStr und9 rfl rfl ?_ | refine WL.fieldAddr (tyF rfl) rfl rfl ?_ | refine WL.not rfl rfl ?_ | refine WL.pick_t rfl rfl rfl ?_ | refine WL.pick_f rfl rfl rfl ?_ | refine WL.want rfl rfl ?_ | refine WL.skip rfl rfl rfl rfl ?_ | refine WL.extract rfl rfl rfl ?_ | refine WL.addI rfl rfl (by omega) rfl ?_ | refine WL.subI rfl rfl (by omega) rfl ?_ | refine WL.indexS (tyS rfl) rfl rfl (by omega) rfl ?_ | refine WL.indexA (tyR rfl) rfl rfl (by omega) rfl ?_)
      refine WL.store (o' := k) (tyP rfl) rfl rfl rfl hr2 (by first | omega | (simp; done) | (simp; omega)) (by omega) ?_
      intro w3 hg3 hz3 hr3
      have hu3 : Up w w3 := hu2.step hg3 (by intro j hj; cases hj; omega)
      refine ⟨trivial, ?_⟩
      repeat (first | refine WL.move rfl rfl ?_ | refine WL.assign rfl rfl ?_ | refine W.seq ?_ | refine W.region ?_ | refine WL.nil ?_ | refine Post.next ?_ | refine Post.tail ?_ | refine W.cond_t rfl ?_ | refine W.cond_f rfl ?_ | refine W.block ?_ | refine W.skip ?_ | refine W.exit ?_ | refine W.ret ?_ | refine Post.block_exit ?_ | refine Post.block_other rfl ?_ | refine Post.then_exit ?_ | refine Post.then_ret ?_ | refine Post.block_ret ?_ | refine Post.block_normal ?_ | refine WL.lenS (tyS rfl) rfl rfl ?_ | refine WL.lenStr und9 rfl rfl ?_ | refine WL.fieldAddr (tyF rfl) rfl rfl ?_ | refine WL.not rfl rfl ?_ | refine WL.pick_t rfl rfl rfl ?_ | refine WL.pick_f rfl rfl rfl ?_ | refine WL.want rfl rfl ?_ | refine WL.skip rfl rfl rfl rfl ?_ | refine WL.extract rfl rfl rfl ?_ | refine WL.addI rfl rfl (by omega) rfl ?_ | refine WL.subI rfl rfl (by omega) rfl ?_ | refine WL.indexS (tyS rfl) rfl rfl (by omega) rfl ?_ | refine WL.indexA (tyR rfl) rfl rfl (by omega) rfl ?_)
      have hfit : k + [Value.int .u16 xs[k]].length ≤ cur.length := by simp; omega
      refine Post.round2 (k + 1) (spl cur k [.int .u16 xs[k]]) ⟨rfl, rfl, (by first | rfl | (simp [look]; done) | (simp [look]; omega)), trivial⟩ ⟨by omega, hr3, by rw [spl_length _ _ _ hfit]; exact hcl2, ?_, hu3⟩ (by first | omega | (simp; done) | (simp; omega))
      intro i x hi hx'
      by_cases e : i < k
      · rw [spl_lt _ _ _ hfit (by omega)]
        exact hc2 i x e hx'
      · obtain rfl : i = k := by omega
        have hxe : xs[i] = x := by rw [List.getElem?_eq_getElem hk'] at hx'; simpa using hx'
        have h0 := spl_in cur i _ hfit (i := 0) (by simp)
        rw [← hxe]
        simpa using h0
    · repeat (first | refine WL.move rfl rfl ?_ | refine WL.assign rfl rfl ?_ | refine W.seq ?_ | refine W.region ?_ | refine WL.nil ?_ | refine Post.next ?_ | refine Post.tail ?_ | refine W.cond_t rfl ?_ | refine W.cond_f rfl ?_ | refine W.block ?_ | refine W.skip ?_ | refine W.exit ?_ | refine W.ret ?_ | refine Post.block_exit ?_ | refine Post.block_other rfl ?_ | refine Post.then_exit ?_ | refine Post.then_ret ?_ | refine Post.block_ret ?_ | refine Post.block_normal ?_ | refine WL.lenS (tyS rfl) rfl rfl ?_ | refine WL.lenStr und9 rfl rfl ?_ | refine WL.fieldAddr (tyF rfl) rfl rfl ?_ | refine WL.not rfl rfl ?_ | refine WL.pick_t rfl rfl rfl ?_ | refine WL.pick_f rfl rfl rfl ?_ | refine WL.want rfl rfl ?_ | refine WL.skip rfl rfl rfl rfl ?_ | refine WL.extract rfl rfl rfl ?_)
      have hcur : cur = xs.map (Value.int .u16) := by
        apply List.ext_getElem?
        intro i
        by_cases hi : i < xs.length
        · rw [hc2 i xs[i] (by omega) (List.getElem?_eq_getElem hi), List.getElem?_map, List.getElem?_eq_getElem hi]; rfl
        · rw [List.getElem?_eq_none (by omega), List.getElem?_eq_none (by simp; omega)]
      subst hcur
      exact Post.ret1 rfl rfl ⟨_, rfl, ⟨by simp, .inr ⟨w.heap.size, _, (xs.map (Value.int .u16)).toArray, rfl, Nat.le_refl _, hr2, Nat.le_refl _, by simp only [maxLen]; omega, by simp, List.take_of_length_le (by simp)⟩⟩, hu2⟩

/-! ### A run's length: its digits -/
def runD : Nat → List Int
  | 0 => []
  | n + 1 => ((n % 2 : Nat) : Int) :: runD (n / 2)
termination_by n => n
decreasing_by omega
theorem runD_zero : runD 0 = [] := by rw [runD]
theorem runD_succ (n : Nat) : runD (n + 1) = ((n % 2 : Nat) : Int) :: runD (n / 2) := by rw [runD]
theorem and1 (n : Nat) : IntKind.i64.wrap (BitVec.ofInt 64 (n : Int) &&& BitVec.ofInt 64 1).toNat = ((n % 2 : Nat) : Int) := by
  have h1 : (BitVec.ofInt 64 (n : Int) &&& BitVec.ofInt 64 1).toNat = n % 2 := by
    rw [BitVec.toNat_and]
    simp
  rw [h1, i64w (by omega) (by omega)]
section
variable {P : Program} {ops : Array Oper} {Q : Exit → Act → World → Prop} {S : World → Prop} {r : List (Oper × Bool)} {b : Bool} {n : Nat} {env : Env} {w : World}
variable {d : Nat} {ty : TypeId} {pos : String} {aft : Array Edge}
theorem WL.and1 {t t' : TypeId} {x : Operand} {i : Nat} (hx : ev env x = some (.int .i64 (i : Int))) (hd : Nat.blt d n = true) (k : WL P ops Q S r n ((d, .int .i64 ((i % 2 : Nat) : Int)) :: env) w) :
    WL P ops Q S (({ dst := some d, op := .binOp .and t x (.const (.int .i64 1)) t', type := ty, pos := pos, after := aft, guard := none }, b) :: r) n env w :=
  WL.andI hx rfl hd (by rw [show IntKind.i64.bits = 64 from rfl, Lx.and1 i]; exact k)
theorem WL.quoI {t t' : TypeId} {x y : Operand} {i j : Int} (hx : ev env x = some (.int .i64 i)) (hy : ev env y = some (.int .i64 j)) (hi : 0 ≤ i ∧ i ≤ 9223372036854775807) (hj : 1 ≤ j) (hd : Nat.blt d n = true) (k : WL P ops Q S r n ((d, .int .i64 (i / j)) :: env) w) :
    WL P ops Q S (({ dst := some d, op := .binOp .quo t x y t', type := ty, pos := pos, after := aft, guard := none }, b) :: r) n env w :=
  WL.quo hx hy (by omega) hd (by
    rw [Int.tdiv_eq_ediv_of_nonneg hi.1, i64w (Int.le_trans (by omega) (Int.ediv_nonneg hi.1 (by omega))) (Int.le_trans (Int.ediv_le_self j hi.1) hi.2)]; exact k)
end
theorem runD_len : ∀ (n z : Nat), z ≤ n → (runD z).length ≤ z
  | n, 0, _ => by rw [runD_zero]; simp
  | 0, z + 1, h => by omega
  | n + 1, z + 1, h => by
    rw [runD_succ]
    have := runD_len n (z / 2) (by omega)
    simp only [List.length_cons]
    omega
theorem appendRun_c (w : World) (v : Value) (ds : List Int) (z B : Nat) (hown : w.ownsRow B 42 1 v ds.length (ds.map (Value.int .u16))) (hB : B ≤ w.heap.size) (hz : z ≤ 1048576) (hl : ds.length ≤ 4194304) :
    Calls Try.prog 30 #[v, .int .i64 z] w fun r w' => ∃ v', r = .returned v' ∧ w'.ownsRow B 42 1 v' (ds ++ runD z).length ((ds ++ runD z).map (Value.int .u16)) ∧ OwnStep w v w' v' := by
  refine Calls.of_W (args := [v, .int .i64 z]) Try.func30 rfl rfl rfl ?_
  repeat (first | refine WL.move rfl rfl ?_ | refine WL.assign rfl rfl ?_ | refine W.seq ?_ | refine W.region ?_ | refine WL.nil ?_ | refine Post.next ?_ | refine Post.tail ?_ | refine W.cond_t rfl ?_ | refine W.cond_f rfl ?_ | refine W.block ?_ | refine W.skip ?_ | refine W.exit ?_ | refine W.ret ?_ | refine Post.block_exit ?_ | refine Post.block_other rfl ?_ | refine Post.then_exit ?_ | refine Post.then_ret ?_ | refine Post.block_ret ?_ | refine Post.block_normal ?_ | refine WL.lenS (tyS rfl) rfl rfl ?_ | refine WL.lenStr und9 rfl rfl ?_ | refine WL.fieldAddr (tyF rfl) rfl rfl ?_ | refine WL.not rfl rfl ?_ | refine WL.pick_t rfl rfl rfl ?_ | refine WL.pick_f rfl rfl rfl ?_ | refine WL.want rfl rfl ?_ | refine WL.skip rfl rfl rfl rfl ?_ | refine WL.extract rfl rfl rfl ?_)
  refine WL.eqI rfl rfl rfl (fun h => ?_) (fun h => ?_)
  · have : z = 0 := by omega
    subst this
    repeat (first | refine WL.move rfl rfl ?_ | refine WL.assign rfl rfl ?_ | refine W.seq ?_ | refine W.region ?_ | refine WL.nil ?_ | refine Post.next ?_ | refine Post.tail ?_ | refine W.cond_t rfl ?_ | refine W.cond_f rfl ?_ | refine W.block ?_ | refine W.skip ?_ | refine W.exit ?_ | refine W.ret ?_ | refine Post.block_exit ?_ | refine Post.block_other rfl ?_ | refine Post.then_exit ?_ | refine Post.then_ret ?_ | refine Post.block_ret ?_ | refine Post.block_normal ?_ | refine WL.lenS (tyS rfl) rfl rfl ?_ | refine WL.lenStr und9 rfl rfl ?_ | refine WL.fieldAddr (tyF rfl) rfl rfl ?_ | refine WL.not rfl rfl ?_ | refine WL.pick_t rfl rfl rfl ?_ | refine WL.pick_f rfl rfl rfl ?_ | refine WL.want rfl rfl ?_ | refine WL.skip rfl rfl rfl rfl ?_ | refine WL.extract rfl rfl rfl ?_)
    refine Post.ret1 rfl rfl ⟨_, rfl, ?_, OwnStep.refl _ _⟩
    rw [runD_zero, List.append_nil]; exact hown
  · obtain ⟨z, rfl⟩ : ∃ y, z = y + 1 := ⟨z - 1, by omega⟩
    repeat (first | refine WL.move rfl rfl ?_ | refine WL.assign rfl rfl ?_ | refine W.seq ?_ | refine W.region ?_ | refine WL.nil ?_ | refine Post.next ?_ | refine Post.tail ?_ | refine W.cond_t rfl ?_ | refine W.cond_f rfl ?_ | refine W.block ?_ | refine W.skip ?_ | refine W.exit ?_ | refine W.ret ?_ | refine Post.block_exit ?_ | refine Post.block_other rfl ?_ | refine Post.then_exit ?_ | refine Post.then_ret ?_ | refine Post.block_ret ?_ | refine Post.block_normal ?_ | refine WL.lenS (tyS rfl) rfl rfl ?_ | refine WL.lenStr und9 rfl rfl ?_ | refine WL.fieldAddr (tyF rfl) rfl rfl ?_ | refine WL.not rfl rfl ?_ | refine WL.pick_t rfl rfl rfl ?_ | refine WL.pick_f rfl rfl rfl ?_ | refine WL.want rfl rfl ?_ | refine WL.skip rfl rfl rfl rfl ?_ | refine WL.extract rfl rfl rfl ?_ | refine WL.addI rfl rfl (by omega) rfl ?_ | refine WL.subI rfl rfl (by omega) rfl ?_ | refine WL.indexS (tyS rfl) rfl rfl (by omega) rfl ?_ | refine WL.indexA (tyR rfl) rfl rfl (by omega) rfl ?_)
    have hlen := runD_len (z + 1) (z + 1) (Nat.le_refl _)
    refine W.loop3 (fun (i : Nat) (_ : List Int) (u : Value) => [(0, u), (1, .int .i64 (i : Int))])
      (fun i cs u wr => i ≤ 1048576 ∧ cs ++ runD (i + 1) = ds ++ runD (z + 1) ∧ wr.ownsRow B 42 1 u cs.length (cs.map (Value.int .u16)) ∧ OwnStep w v wr u) (fun i _ _ => i) z ds v ⟨rfl, by simp [look], trivial⟩ ⟨by omega, rfl, hown, OwnStep.refl _ _⟩ ?_
    rintro i cs u wr ⟨hi, heq, ho, hbe⟩
    have hcl : cs.length + (runD (i + 1)).length = ds.length + (runD (z + 1)).length := by
      have := congrArg List.length heq
      simpa using this
    have hsz : B ≤ wr.heap.size := Nat.le_trans hB hbe.g.size
    have hstep : runD (i + 1) = ((i % 2 : Nat) : Int) :: runD (i / 2) := runD_succ i
    (refine W.seq ?_; repeat (first | refine WL.move rfl rfl ?_ | refine WL.assign rfl rfl ?_ | refine W.region ?_ | refine WL.nil ?_ | refine Post.next ?_ | refine Post.tail ?_ | refine W.cond_t rfl ?_ | refine W.cond_f rfl ?_ | refine W.block ?_ | refine W.skip ?_ | refine W.exit ?_ | refine W.ret ?_ | refine Post.block_exit ?_ | refine Post.block_other rfl ?_ | refine Post.then_exit ?_ | refine Post.then_ret ?_ | refine Post.block_ret ?_ | refine Post.block_normal ?_ | refine WL.lenS (tyS rfl) rfl rfl ?_ | refine WL.lenStr und9 rfl rfl ?_ | refine WL.fieldAddr (tyF rfl) rfl rfl ?_ | refine WL.not rfl rfl ?_ | refine WL.pick_t rfl rfl rfl ?_ | refine WL.pick_f rfl rfl rfl ?_ | refine WL.want rfl rfl ?_ | refine WL.skip rfl rfl rfl rfl ?_ | refine WL.extract rfl rfl rfl ?_))
    refine W.seq_joinE (fun (y : List Int × Value) => [(0, y.2), (1, .int .i64 (i : Int))]) (fun y w' => y.1 = cs ++ [((i % 2 : Nat) : Int)] ∧ w'.ownsRow B 42 1 y.2 y.1.length (y.1.map (Value.int .u16)) ∧ OwnStep w v w' y.2) ?_ ?_
    · repeat (first | refine WL.move rfl rfl ?_ | refine WL.assign rfl rfl ?_ | refine W.seq ?_ | refine W.region ?_ | refine WL.nil ?_ | refine Post.next ?_ | refine Post.tail ?_ | refine W.cond_t rfl ?_ | refine W.cond_f rfl ?_ | refine W.block ?_ | refine W.skip ?_ | refine W.exit ?_ | refine W.ret ?_ | refine Post.block_exit ?_ | refine Post.block_other rfl ?_ | refine Post.then_exit ?_ | refine Post.then_ret ?_ | refine Post.block_ret ?_ | refine Post.block_normal ?_ | refine WL.lenS (tyS rfl) rfl rfl ?_ | refine WL.lenStr und9 rfl rfl ?_ | refine WL.fieldAddr (tyF rfl) rfl rfl ?_ | refine WL.not rfl rfl ?_ | refine WL.pick_t rfl rfl rfl ?_ | refine WL.pick_f rfl rfl rfl ?_ | refine WL.want rfl rfl ?_ | refine WL.skip rfl rfl rfl rfl ?_ | refine WL.extract rfl rfl rfl ?_)
      refine WL.and1 rfl rfl ?_
      refine WL.eqI rfl rfl rfl (fun h0 => ?_) (fun h0 => ?_)
      · repeat (first | refine WL.move rfl rfl ?_ | refine WL.assign rfl rfl ?_ | refine W.seq ?_ | refine W.region ?_ | refine WL.nil ?_ | refine Post.next ?_ | refine Post.tail ?_ | refine W.cond_t rfl ?_ | refine W.cond_f rfl ?_ | refine W.block ?_ | refine W.skip ?_ | refine W.exit ?_ | refine W.ret ?_ | refine Post.block_exit ?_ | refine Post.block_other rfl ?_ | refine Post.then_exit ?_ | refine Post.then_ret ?_ | refine Post.block_ret ?_ | refine Post.block_normal ?_ | refine WL.lenS (tyS rfl) rfl rfl ?_ | refine WL.lenStr und9 rfl rfl ?_ | refine WL.fieldAddr (tyF rfl) rfl rfl ?_ | refine WL.not rfl rfl ?_ | refine WL.pick_t rfl rfl rfl ?_ | refine WL.pick_f rfl rfl rfl ?_ | refine WL.want rfl rfl ?_ | refine WL.skip rfl rfl rfl rfl ?_ | refine WL.extract rfl rfl rfl ?_)
        refine WL.buildSlice1 make26 rfl rfl rfl ?_
        intro wb hgb hzb hrb
        refine ⟨trivial, ?_⟩
        have hob := ownsRow_up ho (Up.grown hgb)
        refine WL.appendL make26 rfl rfl hob hrb rfl (by simp [Value.oneCell']) (by omega) (by omega) (by omega) rfl ?_
        intro u' wc hoc hgc hlc _
        refine ⟨trivial, ?_⟩
        repeat (first | refine WL.move rfl rfl ?_ | refine WL.assign rfl rfl ?_ | refine W.seq ?_ | refine W.region ?_ | refine WL.nil ?_ | refine Post.next ?_ | refine Post.tail ?_ | refine W.cond_t rfl ?_ | refine W.cond_f rfl ?_ | refine W.block ?_ | refine W.skip ?_ | refine W.exit ?_ | refine W.ret ?_ | refine Post.block_exit ?_ | refine Post.block_other rfl ?_ | refine Post.then_exit ?_ | refine Post.then_ret ?_ | refine Post.block_ret ?_ | refine Post.block_normal ?_ | refine WL.lenS (tyS rfl) rfl rfl ?_ | refine WL.lenStr und9 rfl rfl ?_ | refine WL.fieldAddr (tyF rfl) rfl rfl ?_ | refine WL.not rfl rfl ?_ | refine WL.pick_t rfl rfl rfl ?_ | refine WL.pick_f rfl rfl rfl ?_ | refine WL.want rfl rfl ?_ | refine WL.skip rfl rfl rfl rfl ?_ | refine WL.extract rfl rfl rfl ?_)
        refine Post.joinE (cs ++ [((i % 2 : Nat) : Int)], u') ⟨rfl, rfl, trivial⟩ ⟨rfl, ?_, hbe.app hgb hgc hlc⟩
        rw [h0]
        exact own_int_snoc hoc
      · have h1 : ((i % 2 : Nat) : Int) = 1 := by omega
        repeat (first | refine WL.move rfl rfl ?_ | refine WL.assign rfl rfl ?_ | refine W.seq ?_ | refine W.region ?_ | refine WL.nil ?_ | refine Post.next ?_ | refine Post.tail ?_ | refine W.cond_t rfl ?_ | refine W.cond_f rfl ?_ | refine W.block ?_ | refine W.skip ?_ | refine W.exit ?_ | refine W.ret ?_ | refine Post.block_exit ?_ | refine Post.block_other rfl ?_ | refine Post.then_exit ?_ | refine Post.then_ret ?_ | refine Post.block_ret ?_ | refine Post.block_normal ?_ | refine WL.lenS (tyS rfl) rfl rfl ?_ | refine WL.lenStr und9 rfl rfl ?_ | refine WL.fieldAddr (tyF rfl) rfl rfl ?_ | refine WL.not rfl rfl ?_ | refine WL.pick_t rfl rfl rfl ?_ | refine WL.pick_f rfl rfl rfl ?_ | refine WL.want rfl rfl ?_ | refine WL.skip rfl rfl rfl rfl ?_ | refine WL.extract rfl rfl rfl ?_)
        refine WL.buildSlice1 make26 rfl rfl rfl ?_
        intro wb hgb hzb hrb
        refine ⟨trivial, ?_⟩
        have hob := ownsRow_up ho (Up.grown hgb)
        refine WL.appendL make26 rfl rfl hob hrb rfl (by simp [Value.oneCell']) (by omega) (by omega) (by omega) rfl ?_
        intro u' wc hoc hgc hlc _
        refine ⟨trivial, ?_⟩
        repeat (first | refine WL.move rfl rfl ?_ | refine WL.assign rfl rfl ?_ | refine W.seq ?_ | refine W.region ?_ | refine WL.nil ?_ | refine Post.next ?_ | refine Post.tail ?_ | refine W.cond_t rfl ?_ | refine W.cond_f rfl ?_ | refine W.block ?_ | refine W.skip ?_ | refine W.exit ?_ | refine W.ret ?_ | refine Post.block_exit ?_ | refine Post.block_other rfl ?_ | refine Post.then_exit ?_ | refine Post.then_ret ?_ | refine Post.block_ret ?_ | refine Post.block_normal ?_ | refine WL.lenS (tyS rfl) rfl rfl ?_ | refine WL.lenStr und9 rfl rfl ?_ | refine WL.fieldAddr (tyF rfl) rfl rfl ?_ | refine WL.not rfl rfl ?_ | refine WL.pick_t rfl rfl rfl ?_ | refine WL.pick_f rfl rfl rfl ?_ | refine WL.want rfl rfl ?_ | refine WL.skip rfl rfl rfl rfl ?_ | refine WL.extract rfl rfl rfl ?_)
        refine Post.joinE (cs ++ [((i % 2 : Nat) : Int)], u') ⟨rfl, rfl, trivial⟩ ⟨rfl, ?_, hbe.app hgb hgc hlc⟩
        rw [h1]
        exact own_int_snoc hoc
    · rintro ⟨cs', u'⟩ wc ⟨rfl, hoc, hbc⟩
      repeat (first | refine WL.move rfl rfl ?_ | refine WL.assign rfl rfl ?_ | refine W.seq ?_ | refine W.region ?_ | refine WL.nil ?_ | refine Post.next ?_ | refine Post.tail ?_ | refine W.cond_t rfl ?_ | refine W.cond_f rfl ?_ | refine W.block ?_ | refine W.skip ?_ | refine W.exit ?_ | refine W.ret ?_ | refine Post.block_exit ?_ | refine Post.block_other rfl ?_ | refine Post.then_exit ?_ | refine Post.then_ret ?_ | refine Post.block_ret ?_ | refine Post.block_normal ?_ | refine WL.lenS (tyS rfl) rfl rfl ?_ | refine WL.lenStr und9 rfl rfl ?_ | refine WL.fieldAddr (tyF rfl) rfl rfl ?_ | refine WL.not rfl rfl ?_ | refine WL.pick_t rfl rfl rfl ?_ | refine WL.pick_f rfl rfl rfl ?_ | refine WL.want rfl rfl ?_ | refine WL.skip rfl rfl rfl rfl ?_ | refine WL.extract rfl rfl rfl ?_)
      refine WL.lss rfl rfl rfl (fun h2 => ?_) (fun h2 => ?_)
      · have hz0 : i / 2 = 0 := by omega
        repeat (first | refine WL.move rfl rfl ?_ | refine WL.assign rfl rfl ?_ | refine W.seq ?_ | refine W.region ?_ | refine WL.nil ?_ | refine Post.next ?_ | refine Post.tail ?_ | refine W.cond_t rfl ?_ | refine W.cond_f rfl ?_ | refine W.block ?_ | refine W.skip ?_ | refine W.exit ?_ | refine W.ret ?_ | refine Post.block_exit ?_ | refine Post.block_other rfl ?_ | refine Post.then_exit ?_ | refine Post.then_ret ?_ | refine Post.block_ret ?_ | refine Post.block_normal ?_ | refine WL.lenS (tyS rfl) rfl rfl ?_ | refine WL.lenStr und9 rfl rfl ?_ | refine WL.fieldAddr (tyF rfl) rfl rfl ?_ | refine WL.not rfl rfl ?_ | refine WL.pick_t rfl rfl rfl ?_ | refine WL.pick_f rfl rfl rfl ?_ | refine WL.want rfl rfl ?_ | refine WL.skip rfl rfl rfl rfl ?_ | refine WL.extract rfl rfl rfl ?_)
        refine Post.ret1 rfl rfl ⟨_, rfl, ?_, hbc⟩
        rw [hz0, runD_zero] at hstep
        rw [← heq, hstep]
        exact hoc
      · repeat (first | refine WL.move rfl rfl ?_ | refine WL.assign rfl rfl ?_ | refine W.seq ?_ | refine W.region ?_ | refine WL.nil ?_ | refine Post.next ?_ | refine Post.tail ?_ | refine W.cond_t rfl ?_ | refine W.cond_f rfl ?_ | refine W.block ?_ | refine W.skip ?_ | refine W.exit ?_ | refine W.ret ?_ | refine Post.block_exit ?_ | refine Post.block_other rfl ?_ | refine Post.then_exit ?_ | refine Post.then_ret ?_ | refine Post.block_ret ?_ | refine Post.block_normal ?_ | refine WL.lenS (tyS rfl) rfl rfl ?_ | refine WL.lenStr und9 rfl rfl ?_ | refine WL.fieldAddr (tyF rfl) rfl rfl ?_ | refine WL.not rfl rfl ?_ | refine WL.pick_t rfl rfl rfl ?_ | refine WL.pick_f rfl rfl rfl ?_ | refine WL.want rfl rfl ?_ | refine WL.skip rfl rfl rfl rfl ?_ | refine WL.extract rfl rfl rfl ?_ | refine WL.addI rfl rfl (by omega) rfl ?_ | refine WL.subI rfl rfl (by omega) rfl ?_ | refine WL.indexS (tyS rfl) rfl rfl (by omega) rfl ?_ | refine WL.indexA (tyR rfl) rfl rfl (by omega) rfl ?_)
        refine WL.quoI rfl rfl (by omega) (by omega) rfl ?_
        repeat (first | refine WL.move rfl rfl ?_ | refine WL.assign rfl rfl ?_ | refine W.seq ?_ | refine W.region ?_ | refine WL.nil ?_ | refine Post.next ?_ | refine Post.tail ?_ | refine W.cond_t rfl ?_ | refine W.cond_f rfl ?_ | refine W.block ?_ | refine W.skip ?_ | refine W.exit ?_ | refine W.ret ?_ | refine Post.block_exit ?_ | refine Post.block_other rfl ?_ | refine Post.then_exit ?_ | refine Post.then_ret ?_ | refine Post.block_ret ?_ | refine Post.block_normal ?_ | refine WL.lenS (tyS rfl) rfl rfl ?_ | refine WL.lenStr und9 rfl rfl ?_ | refine WL.fieldAddr (tyF rfl) rfl rfl ?_ | refine WL.not rfl rfl ?_ | refine WL.pick_t rfl rfl rfl ?_ | refine WL.pick_f rfl rfl rfl ?_ | refine WL.want rfl rfl ?_ | refine WL.skip rfl rfl rfl rfl ?_ | refine WL.extract rfl rfl rfl ?_)
        have hi2 : i / 2 = (i / 2 - 1) + 1 := by omega
        refine Post.round3 (i / 2 - 1) (cs ++ [((i % 2 : Nat) : Int)]) u' ⟨rfl, congrArg (fun x => some (Value.int .i64 x)) (by omega : ((i : Int) - 2) / 2 = ((i / 2 - 1 : Nat) : Int)), trivial⟩ ⟨by omega, ?_, hoc, hbc⟩ (by omega)
        rw [← hi2, List.append_assoc, List.singleton_append, ← hstep]; exact heq
end Go.Lx
