import Derived.Test.Qxb6602828aPtZ
namespace Go.Lx
open Go.Proofs Go.RowKit

/-! ### Plain: what 'keep' gathers -/
theorem pIter_succ (n : Nat) (p : ByteArray) : pIter (n + 1) p = pIter n (parentG p) := by
  induction n with
  | zero => rfl
  | succ n ih => exact congrArg parentG ih
theorem pIter_add (n m : Nat) (p : ByteArray) : pIter n (pIter m p) = pIter (n + m) p := by
  induction n with
  | zero => rw [Nat.zero_add]; rfl
  | succ n ih => rw [Nat.succ_add]; exact congrArg parentG ih
theorem pIter_eB (n : Nat) : pIter n eB = eB := by
  induction n with
  | zero => rfl
  | succ n ih => exact (congrArg parentG ih).trans parentG_eB
theorem pIter_size (n : Nat) (p : ByteArray) : (pIter n p).size ≤ p.size := by
  induction n with
  | zero => exact Nat.le_refl _
  | succ n ih =>
    by_cases h : pIter n p = eB
    · simp only [pIter, h, parentG_eB]; exact Nat.zero_le _
    · exact Nat.le_trans (Nat.le_of_lt (parentG_lt h)) ih
structure KFin (In D : ByteArray → Prop) (W : List ByteArray) : Prop where
  sub : ∀ q ∈ W, In q ∧ Anc D q
  don : ∀ s, D s → ∀ n, In (pIter n s) → pIter n s ∈ W
theorem KFin.cl {In D : ByteArray → Prop} {W : List ByteArray} (h : KFin In D W) {q : ByteArray} (hq : q ∈ W) (n : Nat) (hi : In (pIter n q)) : pIter n q ∈ W := by
  obtain ⟨_, s, m, hs, rfl⟩ := h.sub q hq
  rw [pIter_add] at hi ⊢
  exact h.don s hs _ hi
theorem KFin.full {In D : ByteArray → Prop} {W : List ByteArray} (h : KFin In D W) (q : ByteArray) : q ∈ W ↔ In q ∧ Anc D q := by
  refine ⟨h.sub q, ?_⟩
  rintro ⟨h1, s, n, hs, rfl⟩
  exact h.don s hs n h1
theorem KFin.congr {In D D' : ByteArray → Prop} {W : List ByteArray} (h : KFin In D W) (hD : ∀ q, D' q ↔ D q) : KFin In D' W := by
  have : D' = D := funext fun q => propext (hD q)
  rw [this]; exact h
theorem KFin.init (In : ByteArray → Prop) : KFin In (fun _ => False) [] := ⟨by simp, fun _ h => h.elim⟩
structure KI (In D : ByteArray → Prop) (s : ByteArray) (W0 W : List ByteArray) (p : ByteArray) : Prop where
  s0 : KFin In D W0
  mono : ∀ q ∈ W0, q ∈ W
  new : ∀ q ∈ W, q ∈ W0 ∨ (In q ∧ (∃ n, pIter n s = q) ∧ p.size < q.size)
  chn : ∀ n, In (pIter n s) → pIter n s ∈ W ∨ ∃ m, pIter m p = pIter n s
  pan : ∃ n, pIter n s = p
theorem KI.begin {In D : ByteArray → Prop} {W : List ByteArray} (h : KFin In D W) (s : ByteArray) : KI In D s W W s :=
  ⟨h, fun _ h => h, fun _ h => .inl h, fun n _ => .inr ⟨n, rfl⟩, 0, rfl⟩
theorem KI.done {In D D' : ByteArray → Prop} {s : ByteArray} {W0 W : List ByteArray} {p : ByteArray} (h : KI In D s W0 W p) (hc : ∀ n, In (pIter n s) → pIter n s ∈ W) (hD : ∀ q, D' q ↔ D q ∨ q = s) : KFin In D' W := by
  refine ⟨fun q hq => ?_, fun x hx n hi => ?_⟩
  · rcases h.new q hq with h' | ⟨h1, ⟨n, hn⟩, _⟩
    · obtain ⟨h1, x, n, hx, e⟩ := h.s0.sub q h'
      exact ⟨h1, x, n, (hD x).2 (.inl hx), e⟩
    · exact ⟨h1, s, n, (hD s).2 (.inr rfl), hn⟩
  · rcases (hD x).1 hx with h' | rfl
    · exact h.mono _ (h.s0.don x h' n hi)
    · exact hc n hi
theorem KI.stop {In D D' : ByteArray → Prop} {s : ByteArray} {W0 W : List ByteArray} {p : ByteArray} (h : KI In D s W0 W p) (hp : p ∈ W) (hD : ∀ q, D' q ↔ D q ∨ q = s) : KFin In D' W := by
  refine h.done (fun n hi => ?_) hD
  rcases h.chn n hi with h' | ⟨m, hm⟩
  · exact h'
  · have hp0 : p ∈ W0 := by
      rcases h.new p hp with h' | ⟨_, _, h'⟩
      · exact h'
      · omega
    rw [← hm] at hi ⊢
    exact h.mono _ (h.s0.cl hp0 m hi)
/-- Behind the step at p: p is in, where it may be. -/
theorem KI.last {In D D' : ByteArray → Prop} {s : ByteArray} {W0 W W' : List ByteArray} (h : KI In D s W0 W eB) (hW : ∀ q, q ∈ W' ↔ q ∈ W ∨ (q = eB ∧ In eB)) (hD : ∀ q, D' q ↔ D q ∨ q = s) : KFin In D' W' := by
  refine ⟨fun q hq => ?_, fun x hx n hi => ?_⟩
  · rcases (hW q).1 hq with hq | ⟨rfl, hi⟩
    · rcases h.new q hq with h' | ⟨h1, ⟨n, hn⟩, _⟩
      · obtain ⟨h1, x, n, hx, e⟩ := h.s0.sub q h'
        exact ⟨h1, x, n, (hD x).2 (.inl hx), e⟩
      · exact ⟨h1, s, n, (hD s).2 (.inr rfl), hn⟩
    · obtain ⟨n, hn⟩ := h.pan
      exact ⟨hi, s, n, (hD s).2 (.inr rfl), hn⟩
  · refine (hW _).2 ?_
    rcases (hD x).1 hx with h' | rfl
    · exact .inl (h.mono _ (h.s0.don x h' n hi))
    · rcases h.chn n hi with h' | ⟨m, hm⟩
      · exact .inl h'
      · rw [pIter_eB] at hm
        rw [← hm] at hi
        exact .inr ⟨hm.symm, hi⟩
theorem KI.step {In D : ByteArray → Prop} {s : ByteArray} {W0 W W' : List ByteArray} {p : ByteArray} (h : KI In D s W0 W p) (hp : p ≠ eB) (hW : ∀ q, q ∈ W' ↔ q ∈ W ∨ (q = p ∧ In p)) : KI In D s W0 W' (parentG p) := by
  have hlt := parentG_lt hp
  refine ⟨h.s0, fun q hq => (hW q).2 (.inl (h.mono q hq)), fun q hq => ?_, fun n hi => ?_, ?_⟩
  · rcases (hW q).1 hq with hq | ⟨rfl, hi⟩
    · rcases h.new q hq with h' | ⟨h1, h2, h3⟩
      · exact .inl h'
      · exact .inr ⟨h1, h2, by omega⟩
    · exact .inr ⟨hi, h.pan, hlt⟩
  · rcases h.chn n hi with h' | ⟨m, hm⟩
    · exact .inl ((hW _).2 (.inl h'))
    · cases m with
      | zero =>
        have hm : p = pIter n s := hm
        rw [← hm] at hi ⊢
        exact .inl ((hW _).2 (.inr ⟨rfl, hi⟩))
      | succ m => exact .inr ⟨m, by rw [← pIter_succ]; exact hm⟩
  · obtain ⟨n, hn⟩ := h.pan
    exact ⟨n + 1, congrArg parentG hn⟩

/-! ### The memory of 'keep' -/
structure KRel (rw_ : Nat) (w w' : World) : Prop where
  os : w'.os = w.os
  tape : w'.tape = w.tape
  output : w'.output = w.output
  size : w.heap.size ≤ w'.heap.size
  block : ∀ k, k < w.heap.size → k ≠ rw_ → w'.heap[k]? = w.heap[k]?
theorem KRel.refl (r : Nat) (w : World) : KRel r w w := ⟨rfl, rfl, rfl, Nat.le_refl _, fun _ _ _ => rfl⟩
theorem KRel.up {r : Nat} {a b c : World} (h : KRel r a b) (k : Up b c) : KRel r a c :=
  ⟨k.os.trans h.os, k.tape.trans h.tape, k.output.trans h.output, Nat.le_trans h.size k.size, fun i hi h1 => (k.block (Nat.lt_of_lt_of_le hi h.size)).trans (h.block i hi h1)⟩
theorem KRel.map {r : Nat} {a b c : World} (h : KRel r a b) (hg : b.grownBy c (some r)) : KRel r a c :=
  ⟨hg.os.trans h.os, hg.tape.trans h.tape, hg.output.trans h.output, Nat.le_trans h.size hg.size, fun i hi h1 => (hg.block i (Nat.lt_of_lt_of_le hi h.size) (fun e => h1 (Option.some.inj e))).trans (h.block i hi h1)⟩
theorem Up.krel {w w1 w2 : World} {r : Nat} (h : Up w w1) (hr : KRel r w1 w2) (h1 : w.heap.size ≤ r) : Up w w2 :=
  ⟨hr.os.trans h.os, hr.tape.trans h.tape, hr.output.trans h.output, Nat.le_trans h.size hr.size, fun k hk => by
    rw [hr.block k (Nat.lt_of_lt_of_le hk h.size) (by omega), h.block hk]⟩
theorem Row.krel {w w' : World} {r g : Nat} {cs : List Value} {t : TypeId} (h : Row w g cs t) (hr : KRel r w w') (hne : g ≠ r) : Row w' g cs t := by
  unfold Row; rw [hr.block g h.lt hne]; exact h
theorem MapV.krel {w w' : World} {r : Nat} {v : Value} {m : KV} (h : MapV w v m) (hr : KRel r w w') (hne : v ≠ .map (some r)) : MapV w' v m := by
  rcases h with h | ⟨g, rfl, h⟩
  · exact .inl h
  · exact .inr ⟨g, rfl, h.of_block (hr.block g h.lt_size (fun e => hne (by rw [e])))⟩
theorem Iter.krel {w w' : World} {r it : Nat} {v : Value} {m rem : KV} {cur : Option (ByteArray × Value)} (h : Iter w it v m rem cur) (hr : KRel r w w') (h1 : it ≠ r) (h3 : v ≠ .map (some r)) : Iter w' it v m rem cur := by
  refine h.of_blocks (hr.block it h.it_lt h1) (fun g e => ?_)
  rcases h.map with ⟨e', _⟩ | ⟨g', e', hm⟩
  · rw [e'] at e; cases e
  · rw [e'] at e
    cases e
    exact hr.block _ hm.lt_size (fun e => h3 (by rw [e', e]))
/-- The boxes of Part: the tree, 'changed', 'whole' (a map). -/
structure KM (w : World) (gw gt gc rw_ : Nat) (vt vc : Value) (T C wm : KV) : Prop where
  bw : Row w gw [.map (some rw_)] 49
  bt : Row w gt [vt] 45
  bc : Row w gc [vc] 49
  mt : MapV w vt T
  mc : MapV w vc C
  mw : MapIs w rw_ wm
  tr : ∀ k v, mget wm k = some v → v = .bool true
  nt : vt ≠ .map (some rw_)
  nc : vc ≠ .map (some rw_)
  lo : gw ≠ rw_ ∧ gt ≠ rw_ ∧ gc ≠ rw_
theorem KM.up {w w' : World} {gw gt gc rw_ : Nat} {vt vc : Value} {T C wm : KV} (h : KM w gw gt gc rw_ vt vc T C wm) (hu : Up w w') : KM w' gw gt gc rw_ vt vc T C wm :=
  ⟨h.bw.up hu, h.bt.up hu, h.bc.up hu, h.mt.up hu, h.mc.up hu, h.mw.up hu, h.tr, h.nt, h.nc, h.lo⟩
theorem KM.get_in {w : World} {gw gt gc rw_ : Nat} {vt vc : Value} {T C wm : KV} (h : KM w gw gt gc rw_ vt vc T C wm) {q : ByteArray} (hq : q ∈ keys wm) : (mget wm q).getD (.bool false) = .bool true := by
  obtain ⟨v, hv⟩ := mget_some.2 hq
  rw [hv, h.tr q v hv]; rfl
theorem getD_out {wm : KV} {q : ByteArray} (hq : q ∉ keys wm) : (mget wm q).getD (.bool false) = .bool false := by
  rw [mget_none.2 hq]; rfl
theorem KM.set {w w' : World} {gw gt gc rw_ : Nat} {vt vc : Value} {T C wm : KV} (h : KM w gw gt gc rw_ vt vc T C wm) (q : ByteArray) (hg : w.grownBy w' (some rw_)) (hm : MapIs w' rw_ (mset wm q (.bool true))) : KM w' gw gt gc rw_ vt vc T C (mset wm q (.bool true)) :=
  ⟨h.bw.kept hg (fun e => h.lo.1 (Option.some.inj e).symm), h.bt.kept hg (fun e => h.lo.2.1 (Option.some.inj e).symm), h.bc.kept hg (fun e => h.lo.2.2 (Option.some.inj e).symm), h.mt.of_ne hg h.nt, h.mc.of_ne hg h.nc, hm, fun k v hv => by
    rw [mget_mset] at hv
    split at hv
    · cases hv; rfl
    · exact h.tr k v hv, h.nt, h.nc, h.lo⟩
theorem KM.iter {w w' : World} {gw gt gc rw_ it : Nat} {vt vc : Value} {T C wm : KV} (h : KM w gw gt gc rw_ vt vc T C wm) (hi : AtIter w it) (hg : w.grownBy w' (some it)) : KM w' gw gt gc rw_ vt vc T C wm :=
  ⟨h.bw.iter hi hg, h.bt.iter hi hg, h.bc.iter hi hg, h.mt.iter hi hg, h.mc.iter hi hg, h.mw.iter hi hg, h.tr, h.nt, h.nc, h.lo⟩
def InP (T C : KV) (q : ByteArray) : Prop := (mget T q).isSome = true ∨ (mget C q).getD (.bool false) = .bool true

theorem keep_c (w : World) (gw gt gc rw_ : Nat) (vt vc : Value) (T C wm : KV) (D D' : ByteArray → Prop) (s : ByteArray)
    (hM : KM w gw gt gc rw_ vt vc T C wm) (hT : EntsOk T) (hC : BoolM C) (hK : KFin (InP T C) D (keys wm)) (hD : ∀ q, D' q ↔ D q ∨ q = s) (hs : s.size ≤ 4096) :
    Calls Try.prog 42 #[.string s, .pointer (some ⟨gw, 0, none⟩), .pointer (some ⟨gt, 0, none⟩), .pointer (some ⟨gc, 0, none⟩)] w fun e w' => e = .returned (.tuple #[]) ∧
      ∃ wm', KM w' gw gt gc rw_ vt vc T C wm' ∧ KFin (InP T C) D' (keys wm') ∧ KRel rw_ w w' := by
  refine Calls.of_W (args := [.string s, .pointer (some ⟨gw, 0, none⟩), .pointer (some ⟨gt, 0, none⟩), .pointer (some ⟨gc, 0, none⟩)]) Try.func42 rfl rfl rfl ?_
  repeat (first | refine WL.move rfl rfl ?_ | refine WL.assign rfl rfl ?_ | refine W.seq ?_ | refine W.region ?_ | refine WL.nil ?_ | refine Post.next ?_ | refine Post.tail ?_ | refine W.cond_t rfl ?_ | refine W.cond_f rfl ?_ | refine W.block ?_ | refine W.skip ?_ | refine W.exit ?_ | refine W.ret ?_ | refine Post.block_exit ?_ | refine Post.block_other rfl ?_ | refine Post.then_exit ?_ | refine Post.then_ret ?_ | refine Post.block_ret ?_ | refine Post.block_normal ?_ | refine WL.lenS (tyS rfl) rfl rfl ?_ | refine WL.lenStr und9 rfl rfl ?_ | refine WL.fieldAddr (tyF rfl) rfl rfl ?_ | refine WL.not rfl rfl ?_ | refine WL.pick_t rfl rfl rfl ?_ | refine WL.pick_f rfl rfl rfl ?_ | refine WL.want rfl rfl ?_ | refine WL.skip rfl rfl rfl rfl ?_ | refine WL.extract rfl rfl rfl ?_)
  refine W.loop2 (fun (p : ByteArray) (_ : KV) => [(0, .string p), (1, .pointer (some ⟨gw, 0, none⟩)), (2, .pointer (some ⟨gt, 0, none⟩)), (3, .pointer (some ⟨gc, 0, none⟩))])
    (fun p m wr => KM wr gw gt gc rw_ vt vc T C m ∧ KI (InP T C) D s (keys wm) (keys m) p ∧ p.size ≤ 4096 ∧ KRel rw_ w wr) (fun p _ => p.size) s wm ⟨rfl, rfl, rfl, rfl, trivial⟩ ⟨hM, KI.begin hK s, hs, KRel.refl _ _⟩ ?_
  rintro p m wr ⟨hm, hk, hp4, hrel⟩
  repeat (first | refine WL.move rfl rfl ?_ | refine WL.assign rfl rfl ?_ | refine W.seq ?_ | refine W.region ?_ | refine WL.nil ?_ | refine Post.next ?_ | refine Post.tail ?_ | refine W.cond_t rfl ?_ | refine W.cond_f rfl ?_ | refine W.block ?_ | refine W.skip ?_ | refine W.exit ?_ | refine W.ret ?_ | refine Post.block_exit ?_ | refine Post.block_other rfl ?_ | refine Post.then_exit ?_ | refine Post.then_ret ?_ | refine Post.block_ret ?_ | refine Post.block_normal ?_ | refine WL.lenS (tyS rfl) rfl rfl ?_ | refine WL.lenStr und9 rfl rfl ?_ | refine WL.fieldAddr (tyF rfl) rfl rfl ?_ | refine WL.not rfl rfl ?_ | refine WL.pick_t rfl rfl rfl ?_ | refine WL.pick_f rfl rfl rfl ?_ | refine WL.want rfl rfl ?_ | refine WL.skip rfl rfl rfl rfl ?_ | refine WL.extract rfl rfl rfl ?_)
  refine WL.load (o' := 0) (tyP rfl) rfl (fun _ e => e) (hm.bw.cell rfl) rfl rfl ?_
  repeat (first | refine WL.move rfl rfl ?_ | refine WL.assign rfl rfl ?_ | refine W.seq ?_ | refine W.region ?_ | refine WL.nil ?_ | refine Post.next ?_ | refine Post.tail ?_ | refine W.cond_t rfl ?_ | refine W.cond_f rfl ?_ | refine W.block ?_ | refine W.skip ?_ | refine W.exit ?_ | refine W.ret ?_ | refine Post.block_exit ?_ | refine Post.block_other rfl ?_ | refine Post.then_exit ?_ | refine Post.then_ret ?_ | refine Post.block_ret ?_ | refine Post.block_normal ?_ | refine WL.lenS (tyS rfl) rfl rfl ?_ | refine WL.lenStr und9 rfl rfl ?_ | refine WL.fieldAddr (tyF rfl) rfl rfl ?_ | refine WL.not rfl rfl ?_ | refine WL.pick_t rfl rfl rfl ?_ | refine WL.pick_f rfl rfl rfl ?_ | refine WL.want rfl rfl ?_ | refine WL.skip rfl rfl rfl rfl ?_ | refine WL.extract rfl rfl rfl ?_)
  by_cases hin : p ∈ keys m
  · refine WL.look1v map49 rfl rfl (fun _ e => e) (.inr ⟨_, rfl, hm.mw⟩) (hm.get_in hin) rfl ?_
    repeat (first | refine WL.move rfl rfl ?_ | refine WL.assign rfl rfl ?_ | refine W.seq ?_ | refine W.region ?_ | refine WL.nil ?_ | refine Post.next ?_ | refine Post.tail ?_ | refine W.cond_t rfl ?_ | refine W.cond_f rfl ?_ | refine W.block ?_ | refine W.skip ?_ | refine W.exit ?_ | refine W.ret ?_ | refine Post.block_exit ?_ | refine Post.block_other rfl ?_ | refine Post.then_exit ?_ | refine Post.then_ret ?_ | refine Post.block_ret ?_ | refine Post.block_normal ?_ | refine WL.lenS (tyS rfl) rfl rfl ?_ | refine WL.lenStr und9 rfl rfl ?_ | refine WL.fieldAddr (tyF rfl) rfl rfl ?_ | refine WL.not rfl rfl ?_ | refine WL.pick_t rfl rfl rfl ?_ | refine WL.pick_f rfl rfl rfl ?_ | refine WL.want rfl rfl ?_ | refine WL.skip rfl rfl rfl rfl ?_ | refine WL.extract rfl rfl rfl ?_)
    exact Post.end0 rfl ⟨rfl, m, hm, hk.stop hin hD, hrel⟩
  · refine WL.look1v map49 rfl rfl (fun _ e => e) (.inr ⟨_, rfl, hm.mw⟩) (getD_out hin) rfl ?_
    repeat (first | refine WL.move rfl rfl ?_ | refine WL.assign rfl rfl ?_ | refine W.region ?_ | refine WL.nil ?_ | refine Post.next ?_ | refine Post.tail ?_ | refine W.cond_t rfl ?_ | refine W.cond_f rfl ?_ | refine W.block ?_ | refine W.skip ?_ | refine W.exit ?_ | refine W.ret ?_ | refine Post.block_exit ?_ | refine Post.block_other rfl ?_ | refine Post.then_exit ?_ | refine Post.then_ret ?_ | refine Post.block_ret ?_ | refine Post.block_normal ?_ | refine WL.lenS (tyS rfl) rfl rfl ?_ | refine WL.lenStr und9 rfl rfl ?_ | refine WL.fieldAddr (tyF rfl) rfl rfl ?_ | refine WL.not rfl rfl ?_ | refine WL.pick_t rfl rfl rfl ?_ | refine WL.pick_f rfl rfl rfl ?_ | refine WL.want rfl rfl ?_ | refine WL.skip rfl rfl rfl rfl ?_ | refine WL.extract rfl rfl rfl ?_)
    refine W.seq_join [(0, .string p), (1, .pointer (some ⟨gw, 0, none⟩)), (2, .pointer (some ⟨gt, 0, none⟩)), (3, .pointer (some ⟨gc, 0, none⟩))]
      (fun w' => ∃ m', KM w' gw gt gc rw_ vt vc T C m' ∧ (∀ q, q ∈ keys m' ↔ q ∈ keys m ∨ (q = p ∧ InP T C p)) ∧ KRel rw_ w w') ?_ ?_
    · repeat (first | refine WL.move rfl rfl ?_ | refine WL.assign rfl rfl ?_ | refine W.seq ?_ | refine W.region ?_ | refine WL.nil ?_ | refine Post.next ?_ | refine Post.tail ?_ | refine W.cond_t rfl ?_ | refine W.cond_f rfl ?_ | refine W.block ?_ | refine W.skip ?_ | refine W.exit ?_ | refine W.ret ?_ | refine Post.block_exit ?_ | refine Post.block_other rfl ?_ | refine Post.then_exit ?_ | refine Post.then_ret ?_ | refine Post.block_ret ?_ | refine Post.block_normal ?_ | refine WL.lenS (tyS rfl) rfl rfl ?_ | refine WL.lenStr und9 rfl rfl ?_ | refine WL.fieldAddr (tyF rfl) rfl rfl ?_ | refine WL.not rfl rfl ?_ | refine WL.pick_t rfl rfl rfl ?_ | refine WL.pick_f rfl rfl rfl ?_ | refine WL.want rfl rfl ?_ | refine WL.skip rfl rfl rfl rfl ?_ | refine WL.extract rfl rfl rfl ?_)
      refine WL.load (o' := 0) (tyP rfl) rfl (fun _ e => e) (hm.bt.cell rfl) rfl rfl ?_
      repeat (first | refine WL.move rfl rfl ?_ | refine WL.assign rfl rfl ?_ | refine W.seq ?_ | refine W.region ?_ | refine WL.nil ?_ | refine Post.next ?_ | refine Post.tail ?_ | refine W.cond_t rfl ?_ | refine W.cond_f rfl ?_ | refine W.block ?_ | refine W.skip ?_ | refine W.exit ?_ | refine W.ret ?_ | refine Post.block_exit ?_ | refine Post.block_other rfl ?_ | refine Post.then_exit ?_ | refine Post.then_ret ?_ | refine Post.block_ret ?_ | refine Post.block_normal ?_ | refine WL.lenS (tyS rfl) rfl rfl ?_ | refine WL.lenStr und9 rfl rfl ?_ | refine WL.fieldAddr (tyF rfl) rfl rfl ?_ | refine WL.not rfl rfl ?_ | refine WL.pick_t rfl rfl rfl ?_ | refine WL.pick_f rfl rfl rfl ?_ | refine WL.want rfl rfl ?_ | refine WL.skip rfl rfl rfl rfl ?_ | refine WL.extract rfl rfl rfl ?_)
      refine WL.look2 map45 rfl rfl (fun _ e => e) hm.mt rfl ?_
      repeat (first | refine WL.move rfl rfl ?_ | refine WL.assign rfl rfl ?_ | refine W.seq ?_ | refine W.region ?_ | refine WL.nil ?_ | refine Post.next ?_ | refine Post.tail ?_ | refine W.cond_t rfl ?_ | refine W.cond_f rfl ?_ | refine W.block ?_ | refine W.skip ?_ | refine W.exit ?_ | refine W.ret ?_ | refine Post.block_exit ?_ | refine Post.block_other rfl ?_ | refine Post.then_exit ?_ | refine Post.then_ret ?_ | refine Post.block_ret ?_ | refine Post.block_normal ?_ | refine WL.lenS (tyS rfl) rfl rfl ?_ | refine WL.lenStr und9 rfl rfl ?_ | refine WL.fieldAddr (tyF rfl) rfl rfl ?_ | refine WL.not rfl rfl ?_ | refine WL.pick_t rfl rfl rfl ?_ | refine WL.pick_f rfl rfl rfl ?_ | refine WL.want rfl rfl ?_ | refine WL.skip rfl rfl rfl rfl ?_ | refine WL.extract rfl rfl rfl ?_)
      refine WL.alloc zero68 rfl ?_
      intro w5 hg5 hz5 hr5
      refine ⟨trivial, ?_⟩
      obtain ⟨vs, hvs, hvl, hv1⟩ := hT.get p
      refine WL.storeAgg (vs := vs) (o' := 0) (tyA rfl) rfl (congrArg some hvs) hvl hv1 hr5 rfl (by rw [hvl]; exact Nat.le_refl _) ?_
      intro w6 hg6 hz6 hr6
      refine ⟨trivial, ?_⟩
      have hu6 : Up wr w6 := (Up.grown hg5).step hg6 (by intro j hj; cases hj; exact Nat.le_refl _)
      have hm6 := hm.up hu6
      have hrel6 := hrel.up hu6
      cases ha : mget T p with
      | some ea =>
        have hi : InP T C p := .inl (by rw [ha]; rfl)
        repeat (first | refine WL.move rfl rfl ?_ | refine WL.assign rfl rfl ?_ | refine W.seq ?_ | refine W.region ?_ | refine WL.nil ?_ | refine Post.next ?_ | refine Post.tail ?_ | refine W.cond_t rfl ?_ | refine W.cond_f rfl ?_ | refine W.block ?_ | refine W.skip ?_ | refine W.exit ?_ | refine W.ret ?_ | refine Post.block_exit ?_ | refine Post.block_other rfl ?_ | refine Post.then_exit ?_ | refine Post.then_ret ?_ | refine Post.block_ret ?_ | refine Post.block_normal ?_ | refine WL.lenS (tyS rfl) rfl rfl ?_ | refine WL.lenStr und9 rfl rfl ?_ | refine WL.fieldAddr (tyF rfl) rfl rfl ?_ | refine WL.not rfl rfl ?_ | refine WL.pick_t rfl rfl rfl ?_ | refine WL.pick_f rfl rfl rfl ?_ | refine WL.want rfl rfl ?_ | refine WL.skip rfl rfl rfl rfl ?_ | refine WL.extract rfl rfl rfl ?_)
        refine WL.load (o' := 0) (tyP rfl) rfl (fun _ e => e) (hm6.bw.cell rfl) rfl rfl ?_
        repeat (first | refine WL.move rfl rfl ?_ | refine WL.assign rfl rfl ?_ | refine W.seq ?_ | refine W.region ?_ | refine WL.nil ?_ | refine Post.next ?_ | refine Post.tail ?_ | refine W.cond_t rfl ?_ | refine W.cond_f rfl ?_ | refine W.block ?_ | refine W.skip ?_ | refine W.exit ?_ | refine W.ret ?_ | refine Post.block_exit ?_ | refine Post.block_other rfl ?_ | refine Post.then_exit ?_ | refine Post.then_ret ?_ | refine Post.block_ret ?_ | refine Post.block_normal ?_ | refine WL.lenS (tyS rfl) rfl rfl ?_ | refine WL.lenStr und9 rfl rfl ?_ | refine WL.fieldAddr (tyF rfl) rfl rfl ?_ | refine WL.not rfl rfl ?_ | refine WL.pick_t rfl rfl rfl ?_ | refine WL.pick_f rfl rfl rfl ?_ | refine WL.want rfl rfl ?_ | refine WL.skip rfl rfl rfl rfl ?_ | refine WL.extract rfl rfl rfl ?_)
        refine WL.mapSet map49 rfl rfl rfl hm6.mw ?_
        intro w7 hg7 hz7 hm7
        refine ⟨trivial, ?_⟩
        repeat (first | refine WL.move rfl rfl ?_ | refine WL.assign rfl rfl ?_ | refine W.seq ?_ | refine W.region ?_ | refine WL.nil ?_ | refine Post.next ?_ | refine Post.tail ?_ | refine W.cond_t rfl ?_ | refine W.cond_f rfl ?_ | refine W.block ?_ | refine W.skip ?_ | refine W.exit ?_ | refine W.ret ?_ | refine Post.block_exit ?_ | refine Post.block_other rfl ?_ | refine Post.then_exit ?_ | refine Post.then_ret ?_ | refine Post.block_ret ?_ | refine Post.block_normal ?_ | refine WL.lenS (tyS rfl) rfl rfl ?_ | refine WL.lenStr und9 rfl rfl ?_ | refine WL.fieldAddr (tyF rfl) rfl rfl ?_ | refine WL.not rfl rfl ?_ | refine WL.pick_t rfl rfl rfl ?_ | refine WL.pick_f rfl rfl rfl ?_ | refine WL.want rfl rfl ?_ | refine WL.skip rfl rfl rfl rfl ?_ | refine WL.extract rfl rfl rfl ?_)
        refine Post.join ⟨rfl, rfl, rfl, rfl, trivial⟩ ⟨_, hm6.set p hg7 hm7, fun q => ?_, hrel6.map hg7⟩
        rw [mem_keys_mset]
        exact ⟨fun h => h.elim (fun h => .inr ⟨h, hi⟩) .inl, fun h => h.elim .inr (fun h => .inl h.1)⟩
      | none =>
        repeat (first | refine WL.move rfl rfl ?_ | refine WL.assign rfl rfl ?_ | refine W.seq ?_ | refine W.region ?_ | refine WL.nil ?_ | refine Post.next ?_ | refine Post.tail ?_ | refine W.cond_t rfl ?_ | refine W.cond_f rfl ?_ | refine W.block ?_ | refine W.skip ?_ | refine W.exit ?_ | refine W.ret ?_ | refine Post.block_exit ?_ | refine Post.block_other rfl ?_ | refine Post.then_exit ?_ | refine Post.then_ret ?_ | refine Post.block_ret ?_ | refine Post.block_normal ?_ | refine WL.lenS (tyS rfl) rfl rfl ?_ | refine WL.lenStr und9 rfl rfl ?_ | refine WL.fieldAddr (tyF rfl) rfl rfl ?_ | refine WL.not rfl rfl ?_ | refine WL.pick_t rfl rfl rfl ?_ | refine WL.pick_f rfl rfl rfl ?_ | refine WL.want rfl rfl ?_ | refine WL.skip rfl rfl rfl rfl ?_ | refine WL.extract rfl rfl rfl ?_)
        refine WL.load (o' := 0) (tyP rfl) rfl (fun _ e => e) (hm6.bc.cell rfl) rfl rfl ?_
        repeat (first | refine WL.move rfl rfl ?_ | refine WL.assign rfl rfl ?_ | refine W.seq ?_ | refine W.region ?_ | refine WL.nil ?_ | refine Post.next ?_ | refine Post.tail ?_ | refine W.cond_t rfl ?_ | refine W.cond_f rfl ?_ | refine W.block ?_ | refine W.skip ?_ | refine W.exit ?_ | refine W.ret ?_ | refine Post.block_exit ?_ | refine Post.block_other rfl ?_ | refine Post.then_exit ?_ | refine Post.then_ret ?_ | refine Post.block_ret ?_ | refine Post.block_normal ?_ | refine WL.lenS (tyS rfl) rfl rfl ?_ | refine WL.lenStr und9 rfl rfl ?_ | refine WL.fieldAddr (tyF rfl) rfl rfl ?_ | refine WL.not rfl rfl ?_ | refine WL.pick_t rfl rfl rfl ?_ | refine WL.pick_f rfl rfl rfl ?_ | refine WL.want rfl rfl ?_ | refine WL.skip rfl rfl rfl rfl ?_ | refine WL.extract rfl rfl rfl ?_)
        obtain ⟨b, hb⟩ := mget_getD_bool hC p
        refine WL.look1v map49 rfl rfl (fun _ e => e) hm6.mc hb rfl ?_
        cases b
        · have hni : ¬ InP T C p := by
            rintro (h | h)
            · rw [ha] at h; cases h
            · rw [hb] at h; cases h
          repeat (first | refine WL.move rfl rfl ?_ | refine WL.assign rfl rfl ?_ | refine W.seq ?_ | refine W.region ?_ | refine WL.nil ?_ | refine Post.next ?_ | refine Post.tail ?_ | refine W.cond_t rfl ?_ | refine W.cond_f rfl ?_ | refine W.block ?_ | refine W.skip ?_ | refine W.exit ?_ | refine W.ret ?_ | refine Post.block_exit ?_ | refine Post.block_other rfl ?_ | refine Post.then_exit ?_ | refine Post.then_ret ?_ | refine Post.block_ret ?_ | refine Post.block_normal ?_ | refine WL.lenS (tyS rfl) rfl rfl ?_ | refine WL.lenStr und9 rfl rfl ?_ | refine WL.fieldAddr (tyF rfl) rfl rfl ?_ | refine WL.not rfl rfl ?_ | refine WL.pick_t rfl rfl rfl ?_ | refine WL.pick_f rfl rfl rfl ?_ | refine WL.want rfl rfl ?_ | refine WL.skip rfl rfl rfl rfl ?_ | refine WL.extract rfl rfl rfl ?_)
          refine Post.join ⟨rfl, rfl, rfl, rfl, trivial⟩ ⟨m, hm6, fun q => ?_, hrel6⟩
          exact ⟨.inl, fun h => h.elim id (fun h => absurd h.2 hni)⟩
        · have hi : InP T C p := .inr hb
          repeat (first | refine WL.move rfl rfl ?_ | refine WL.assign rfl rfl ?_ | refine W.seq ?_ | refine W.region ?_ | refine WL.nil ?_ | refine Post.next ?_ | refine Post.tail ?_ | refine W.cond_t rfl ?_ | refine W.cond_f rfl ?_ | refine W.block ?_ | refine W.skip ?_ | refine W.exit ?_ | refine W.ret ?_ | refine Post.block_exit ?_ | refine Post.block_other rfl ?_ | refine Post.then_exit ?_ | refine Post.then_ret ?_ | refine Post.block_ret ?_ | refine Post.block_normal ?_ | refine WL.lenS (tyS rfl) rfl rfl ?_ | refine WL.lenStr und9 rfl rfl ?_ | refine WL.fieldAddr (tyF rfl) rfl rfl ?_ | refine WL.not rfl rfl ?_ | refine WL.pick_t rfl rfl rfl ?_ | refine WL.pick_f rfl rfl rfl ?_ | refine WL.want rfl rfl ?_ | refine WL.skip rfl rfl rfl rfl ?_ | refine WL.extract rfl rfl rfl ?_)
          refine WL.load (o' := 0) (tyP rfl) rfl (fun _ e => e) (hm6.bw.cell rfl) rfl rfl ?_
          repeat (first | refine WL.move rfl rfl ?_ | refine WL.assign rfl rfl ?_ | refine W.seq ?_ | refine W.region ?_ | refine WL.nil ?_ | refine Post.next ?_ | refine Post.tail ?_ | refine W.cond_t rfl ?_ | refine W.cond_f rfl ?_ | refine W.block ?_ | refine W.skip ?_ | refine W.exit ?_ | refine W.ret ?_ | refine Post.block_exit ?_ | refine Post.block_other rfl ?_ | refine Post.then_exit ?_ | refine Post.then_ret ?_ | refine Post.block_ret ?_ | refine Post.block_normal ?_ | refine WL.lenS (tyS rfl) rfl rfl ?_ | refine WL.lenStr und9 rfl rfl ?_ | refine WL.fieldAddr (tyF rfl) rfl rfl ?_ | refine WL.not rfl rfl ?_ | refine WL.pick_t rfl rfl rfl ?_ | refine WL.pick_f rfl rfl rfl ?_ | refine WL.want rfl rfl ?_ | refine WL.skip rfl rfl rfl rfl ?_ | refine WL.extract rfl rfl rfl ?_)
          refine WL.mapSet map49 rfl rfl rfl hm6.mw ?_
          intro w7 hg7 hz7 hm7
          refine ⟨trivial, ?_⟩
          repeat (first | refine WL.move rfl rfl ?_ | refine WL.assign rfl rfl ?_ | refine W.seq ?_ | refine W.region ?_ | refine WL.nil ?_ | refine Post.next ?_ | refine Post.tail ?_ | refine W.cond_t rfl ?_ | refine W.cond_f rfl ?_ | refine W.block ?_ | refine W.skip ?_ | refine W.exit ?_ | refine W.ret ?_ | refine Post.block_exit ?_ | refine Post.block_other rfl ?_ | refine Post.then_exit ?_ | refine Post.then_ret ?_ | refine Post.block_ret ?_ | refine Post.block_normal ?_ | refine WL.lenS (tyS rfl) rfl rfl ?_ | refine WL.lenStr und9 rfl rfl ?_ | refine WL.fieldAddr (tyF rfl) rfl rfl ?_ | refine WL.not rfl rfl ?_ | refine WL.pick_t rfl rfl rfl ?_ | refine WL.pick_f rfl rfl rfl ?_ | refine WL.want rfl rfl ?_ | refine WL.skip rfl rfl rfl rfl ?_ | refine WL.extract rfl rfl rfl ?_)
          refine Post.join ⟨rfl, rfl, rfl, rfl, trivial⟩ ⟨_, hm6.set p hg7 hm7, fun q => ?_, hrel6.map hg7⟩
          rw [mem_keys_mset]
          exact ⟨fun h => h.elim (fun h => .inr ⟨h, hi⟩) .inl, fun h => h.elim .inr (fun h => .inl h.1)⟩
    · rintro w8 ⟨m', hm', hks, hrel8⟩
      repeat (first | refine WL.move rfl rfl ?_ | refine WL.assign rfl rfl ?_ | refine W.seq ?_ | refine W.region ?_ | refine WL.nil ?_ | refine Post.next ?_ | refine Post.tail ?_ | refine W.cond_t rfl ?_ | refine W.cond_f rfl ?_ | refine W.block ?_ | refine W.skip ?_ | refine W.exit ?_ | refine W.ret ?_ | refine Post.block_exit ?_ | refine Post.block_other rfl ?_ | refine Post.then_exit ?_ | refine Post.then_ret ?_ | refine Post.block_ret ?_ | refine Post.block_normal ?_ | refine WL.lenS (tyS rfl) rfl rfl ?_ | refine WL.lenStr und9 rfl rfl ?_ | refine WL.fieldAddr (tyF rfl) rfl rfl ?_ | refine WL.not rfl rfl ?_ | refine WL.pick_t rfl rfl rfl ?_ | refine WL.pick_f rfl rfl rfl ?_ | refine WL.want rfl rfl ?_ | refine WL.skip rfl rfl rfl rfl ?_ | refine WL.extract rfl rfl rfl ?_)
      refine WL.eqS rfl rfl rfl (fun he => ?_) (fun hne => ?_)
      · have he : p = eB := he
        subst he
        repeat (first | refine WL.move rfl rfl ?_ | refine WL.assign rfl rfl ?_ | refine W.seq ?_ | refine W.region ?_ | refine WL.nil ?_ | refine Post.next ?_ | refine Post.tail ?_ | refine W.cond_t rfl ?_ | refine W.cond_f rfl ?_ | refine W.block ?_ | refine W.skip ?_ | refine W.exit ?_ | refine W.ret ?_ | refine Post.block_exit ?_ | refine Post.block_other rfl ?_ | refine Post.then_exit ?_ | refine Post.then_ret ?_ | refine Post.block_ret ?_ | refine Post.block_normal ?_ | refine WL.lenS (tyS rfl) rfl rfl ?_ | refine WL.lenStr und9 rfl rfl ?_ | refine WL.fieldAddr (tyF rfl) rfl rfl ?_ | refine WL.not rfl rfl ?_ | refine WL.pick_t rfl rfl rfl ?_ | refine WL.pick_f rfl rfl rfl ?_ | refine WL.want rfl rfl ?_ | refine WL.skip rfl rfl rfl rfl ?_ | refine WL.extract rfl rfl rfl ?_)
        exact Post.ret0 rfl ⟨rfl, m', hm', hk.last hks hD, hrel8⟩
      · have hne : p ≠ eB := hne
        have hlt := parentG_lt hne
        repeat (first | refine WL.move rfl rfl ?_ | refine WL.assign rfl rfl ?_ | refine W.seq ?_ | refine W.region ?_ | refine WL.nil ?_ | refine Post.next ?_ | refine Post.tail ?_ | refine W.cond_t rfl ?_ | refine W.cond_f rfl ?_ | refine W.block ?_ | refine W.skip ?_ | refine W.exit ?_ | refine W.ret ?_ | refine Post.block_exit ?_ | refine Post.block_other rfl ?_ | refine Post.then_exit ?_ | refine Post.then_ret ?_ | refine Post.block_ret ?_ | refine Post.block_normal ?_ | refine WL.lenS (tyS rfl) rfl rfl ?_ | refine WL.lenStr und9 rfl rfl ?_ | refine WL.fieldAddr (tyF rfl) rfl rfl ?_ | refine WL.not rfl rfl ?_ | refine WL.pick_t rfl rfl rfl ?_ | refine WL.pick_f rfl rfl rfl ?_ | refine WL.want rfl rfl ?_ | refine WL.skip rfl rfl rfl rfl ?_ | refine WL.extract rfl rfl rfl ?_)
        refine WL.call _ (fnT rfl) (args1 rfl) (parent_c _ p (by omega)) (by rintro e w' ⟨rfl, _⟩; exact ⟨_, rfl⟩) rfl ?_
        rintro x w2 ⟨hv, rfl⟩
        cases hv
        refine ⟨trivial, ?_⟩
        repeat (first | refine WL.move rfl rfl ?_ | refine WL.assign rfl rfl ?_ | refine W.seq ?_ | refine W.region ?_ | refine WL.nil ?_ | refine Post.next ?_ | refine Post.tail ?_ | refine W.cond_t rfl ?_ | refine W.cond_f rfl ?_ | refine W.block ?_ | refine W.skip ?_ | refine W.exit ?_ | refine W.ret ?_ | refine Post.block_exit ?_ | refine Post.block_other rfl ?_ | refine Post.then_exit ?_ | refine Post.then_ret ?_ | refine Post.block_ret ?_ | refine Post.block_normal ?_ | refine WL.lenS (tyS rfl) rfl rfl ?_ | refine WL.lenStr und9 rfl rfl ?_ | refine WL.fieldAddr (tyF rfl) rfl rfl ?_ | refine WL.not rfl rfl ?_ | refine WL.pick_t rfl rfl rfl ?_ | refine WL.pick_f rfl rfl rfl ?_ | refine WL.want rfl rfl ?_ | refine WL.skip rfl rfl rfl rfl ?_ | refine WL.extract rfl rfl rfl ?_)
        exact Post.round2 (parentG p) m' ⟨rfl, rfl, rfl, rfl, trivial⟩ ⟨hm', hk.step hne hks, by omega, hrel8⟩ hlt
end Go.Lx
