import Derived.Test.Qxb6602828aCh3
namespace Go.Lx
open Go.Proofs Go.RowKit

def AtIter (w : World) (it : Nat) : Prop := ∃ a b c d, w.heap[it]? = some (.mapIter a b c d)
theorem Iter.at {w : World} {it : Nat} {v : Value} {m rem : KV} {cur : Option (ByteArray × Value)} (h : Iter w it v m rem cur) : AtIter w it := by
  rcases h with ⟨_, _, _, _, e⟩ | ⟨g, e, bs, clock, seen, hm, hi, _⟩
  · exact ⟨_, _, _, _, e⟩
  · exact ⟨_, _, _, _, hi⟩
theorem Row.iter {w w' : World} {g it : Nat} {cs : List Value} {t : TypeId} (h : Row w g cs t) (hi : AtIter w it) (hg : w.grownBy w' (some it)) : Row w' g cs t :=
  h.kept hg (fun e => by
    have e := Option.some.inj e
    subst e
    obtain ⟨a, b, c, d, hi⟩ := hi
    unfold Row at h
    rw [hi] at h
    cases h)
theorem MapIs.iter {w w' : World} {g it : Nat} {m : KV} (h : MapIs w g m) (hi : AtIter w it) (hg : w.grownBy w' (some it)) : MapIs w' g m :=
  h.kept hg (fun e => by
    have e := Option.some.inj e
    subst e
    obtain ⟨a, b, c, d, hi⟩ := hi
    obtain ⟨bs, clock, h⟩ := h
    rw [h.at_] at hi
    cases hi)
theorem MapV.iter {w w' : World} {it : Nat} {v : Value} {m : KV} (h : MapV w v m) (hi : AtIter w it) (hg : w.grownBy w' (some it)) : MapV w' v m := by
  rcases h with h | ⟨g, rfl, h⟩
  · exact .inl h
  · exact .inr ⟨g, rfl, h.iter hi hg⟩
theorem own_iter {w w' : World} {B e k n it : Nat} {v : Value} {xs : List Value} (h : w.ownsRow B e k v n xs) (hi : AtIter w it) (hg : w.grownBy w' (some it)) : w'.ownsRow B e k v n xs :=
  h.kept hg (.inr (fun e => by
    obtain ⟨a, b, c, d, hi⟩ := hi
    rcases h.2 with ⟨rfl, _⟩ | ⟨g, cap, cur, rfl, _, hgg, _⟩
    · simp [Value.ownBlock] at e
    · simp [Value.ownBlock] at e
      subst e
      rw [hi] at hgg
      cases hgg))
theorem LM.iter {w w' : World} {gi ga gm gb ri rm B1 it : Nat} {va vb : Value} {A B : KV} {L : List ByteArray} {im bm : KV} (h : LM w gi ga gm gb ri rm B1 va vb A B L im bm) (hi : AtIter w it) (hg : w.grownBy w' (some it)) : LM w' gi ga gm gb ri rm B1 va vb A B L im bm :=
  ⟨h.bi.iter hi hg, h.ba.iter hi hg, h.bo.iter hi hg, h.bb.iter hi hg, h.ma.iter hi hg, h.mb.iter hi hg, ⟨h.ix.map.iter hi hg, h.ix.ks, fun d v hv => own_iter (h.ix.rows d v hv) hi hg, h.ix.apart⟩, h.mm.iter hi hg, h.mt, h.ne, h.na, h.lo.1, h.lo.2.1, h.lo.2.2.1, h.lo.2.2.2.1, Nat.le_trans h.lo.2.2.2.2 hg.size⟩
theorem Iter.lrel {w w' : World} {it ri rm B1 : Nat} {v : Value} {m rem : KV} {cur : Option (ByteArray × Value)} (h : Iter w it v m rem cur) (hr : LRel ri rm B1 w w') (h1 : it ≠ ri) (h2 : it ≠ rm) (h3 : v ≠ .map (some ri) ∧ v ≠ .map (some rm)) : Iter w' it v m rem cur := by
  refine h.of_blocks (hr.block it h.it_lt h1 h2 (.inr ?_)) (fun g e => ?_)
  · obtain ⟨a, b, c, d, hi⟩ := h.at
    rw [hi]; rfl
  · rcases h.map with ⟨e', _⟩ | ⟨g', e', hm⟩
    · rw [e'] at e; cases e
    · rw [e'] at e
      cases e
      refine hr.block _ hm.lt_size (fun e => h3.1 (by rw [e', e])) (fun e => h3.2 (by rw [e', e])) (.inr ?_)
      obtain ⟨bs, clock, hm⟩ := hm
      rw [hm.at_]; rfl
theorem Up.lrel {w w1 w2 : World} {ri rm B1 : Nat} (h : Up w w1) (hr : LRel ri rm B1 w1 w2) (h1 : w.heap.size ≤ ri) (h2 : w.heap.size ≤ rm) (h3 : w.heap.size ≤ B1) : Up w w2 :=
  ⟨hr.os.trans h.os, hr.tape.trans h.tape, hr.output.trans h.output, Nat.le_trans h.size hr.size, fun k hk => by
    rw [hr.block k (Nat.lt_of_lt_of_le hk h.size) (by omega) (by omega) (.inl (by omega)), h.block hk]⟩
theorem MapV.cells {w : World} {v : Value} {m : KV} (h : MapV w v m) : v.cells = [v].toArray := by
  rcases h with ⟨rfl, _⟩ | ⟨g, rfl, _⟩ <;> rfl
theorem LInv.begin {T D D' : ByteArray → Prop} {L M : List ByteArray} {p : ByteArray} (h : LInv T D L M eB) (hp : T p) (hn : ¬ D p) (hD : ∀ q, D' q ↔ D q ∨ q = p) : LInv T D' L M p := by
  refine ⟨h.nd, fun q => ?_, h.out, h.clo, h.anc, fun q hq => ?_, fun _ => Anc.self hp, .inr (.inl ((hD p).2 (.inr rfl)))⟩
  · rw [h.mem, hD]
    constructor
    · rintro ⟨h1, _, h3⟩
      refine ⟨h1, ?_, h3.imp .inl id⟩
      rintro rfl
      exact h3.elim hn (fun hm => h.out _ hm hp)
    · rintro ⟨h1, h2, h3⟩
      exact ⟨h1, h1, h3.imp (fun h => h.resolve_right h2) id⟩
  · rcases (hD q).1 hq with h' | rfl
    · exact h.sub q h'
    · exact hp
theorem LInv.congr {T D D' : ByteArray → Prop} {L M : List ByteArray} {p : ByteArray} (h : LInv T D L M p) (hD : ∀ q, D' q ↔ D q) : LInv T D' L M p := by
  have : D' = D := funext fun q => propext (hD q)
  rw [this]; exact h
theorem LInv.init (T : ByteArray → Prop) : LInv T (fun _ => False) [] [] eB :=
  ⟨.nil, by simp, by simp, by simp, by simp, fun _ h => h.elim, fun h => absurd rfl h, .inl rfl⟩
theorem keys_perm {a b : KV} (h : a.Perm b) : (keys a).Perm (keys b) := h.map _

set_option maxHeartbeats 2000000 in
theorem children_c (w : World) (va vb : Value) (A B : KV) (hva : MapV w va A) (hvb : MapV w vb B) (hA : EntsOk A) (hB : EntsOk B) (hAk : ∀ k ∈ keys A, k.size ≤ 4096) (hBk : ∀ k ∈ keys B, k.size ≤ 4096) (hAl : A.length ≤ 1048576) (hBl : B.length ≤ 1048576) (hAd : (keys A).Nodup) (hBd : (keys B).Nodup) :
    Calls Try.prog 39 #[va, vb] w fun e w' => ∃ B1 ri L im, e = .returned (.map (some ri)) ∧ Idx w' B1 ri L im ∧ L.Nodup ∧ (∀ q, q ∈ L ↔ q ≠ eB ∧ Anc (fun k => k ∈ keys A ∨ k ∈ keys B) q) ∧ L.length ≤ 8589934592 ∧ Up w w' := by
  refine Calls.of_W (args := [va, vb]) Try.func39 rfl rfl rfl ?_
  repeat (first | refine WL.move rfl rfl ?_ | refine WL.assign rfl rfl ?_ | refine W.seq ?_ | refine W.region ?_ | refine WL.nil ?_ | refine Post.next ?_ | refine Post.tail ?_ | refine W.cond_t rfl ?_ | refine W.cond_f rfl ?_ | refine W.block ?_ | refine W.skip ?_ | refine W.exit ?_ | refine W.ret ?_ | refine Post.block_exit ?_ | refine Post.block_other rfl ?_ | refine Post.then_exit ?_ | refine Post.then_ret ?_ | refine Post.block_ret ?_ | refine Post.block_normal ?_ | refine WL.lenS (tyS rfl) rfl rfl ?_ | refine WL.lenStr und9 rfl rfl ?_ | refine WL.fieldAddr (tyF rfl) rfl rfl ?_ | refine WL.not rfl rfl ?_ | refine WL.pick_t rfl rfl rfl ?_ | refine WL.pick_f rfl rfl rfl ?_ | refine WL.want rfl rfl ?_ | refine WL.skip rfl rfl rfl rfl ?_ | refine WL.extract rfl rfl rfl ?_)
  refine WL.box rfl hva.cells rfl ?_
  intro w1 hg1 hz1 hr1
  refine ⟨trivial, ?_⟩
  repeat (first | refine WL.move rfl rfl ?_ | refine WL.assign rfl rfl ?_ | refine W.seq ?_ | refine W.region ?_ | refine WL.nil ?_ | refine Post.next ?_ | refine Post.tail ?_ | refine W.cond_t rfl ?_ | refine W.cond_f rfl ?_ | refine W.block ?_ | refine W.skip ?_ | refine W.exit ?_ | refine W.ret ?_ | refine Post.block_exit ?_ | refine Post.block_other rfl ?_ | refine Post.then_exit ?_ | refine Post.then_ret ?_ | refine Post.block_ret ?_ | refine Post.block_normal ?_ | refine WL.lenS (tyS rfl) rfl rfl ?_ | refine WL.lenStr und9 rfl rfl ?_ | refine WL.fieldAddr (tyF rfl) rfl rfl ?_ | refine WL.not rfl rfl ?_ | refine WL.pick_t rfl rfl rfl ?_ | refine WL.pick_f rfl rfl rfl ?_ | refine WL.want rfl rfl ?_ | refine WL.skip rfl rfl rfl rfl ?_ | refine WL.extract rfl rfl rfl ?_)
  refine WL.box rfl hvb.cells rfl ?_
  intro w2 hg2 hz2 hr2
  refine ⟨trivial, ?_⟩
  repeat (first | refine WL.move rfl rfl ?_ | refine WL.assign rfl rfl ?_ | refine W.seq ?_ | refine W.region ?_ | refine WL.nil ?_ | refine Post.next ?_ | refine Post.tail ?_ | refine W.cond_t rfl ?_ | refine W.cond_f rfl ?_ | refine W.block ?_ | refine W.skip ?_ | refine W.exit ?_ | refine W.ret ?_ | refine Post.block_exit ?_ | refine Post.block_other rfl ?_ | refine Post.then_exit ?_ | refine Post.then_ret ?_ | refine Post.block_ret ?_ | refine Post.block_normal ?_ | refine WL.lenS (tyS rfl) rfl rfl ?_ | refine WL.lenStr und9 rfl rfl ?_ | refine WL.fieldAddr (tyF rfl) rfl rfl ?_ | refine WL.not rfl rfl ?_ | refine WL.pick_t rfl rfl rfl ?_ | refine WL.pick_f rfl rfl rfl ?_ | refine WL.want rfl rfl ?_ | refine WL.skip rfl rfl rfl rfl ?_ | refine WL.extract rfl rfl rfl ?_)
  refine WL.makeMap0 rfl ?_
  intro w3 hg3 hz3 hm3
  refine ⟨trivial, ?_⟩
  repeat (first | refine WL.move rfl rfl ?_ | refine WL.assign rfl rfl ?_ | refine W.seq ?_ | refine W.region ?_ | refine WL.nil ?_ | refine Post.next ?_ | refine Post.tail ?_ | refine W.cond_t rfl ?_ | refine W.cond_f rfl ?_ | refine W.block ?_ | refine W.skip ?_ | refine W.exit ?_ | refine W.ret ?_ | refine Post.block_exit ?_ | refine Post.block_other rfl ?_ | refine Post.then_exit ?_ | refine Post.then_ret ?_ | refine Post.block_ret ?_ | refine Post.block_normal ?_ | refine WL.lenS (tyS rfl) rfl rfl ?_ | refine WL.lenStr und9 rfl rfl ?_ | refine WL.fieldAddr (tyF rfl) rfl rfl ?_ | refine WL.not rfl rfl ?_ | refine WL.pick_t rfl rfl rfl ?_ | refine WL.pick_f rfl rfl rfl ?_ | refine WL.want rfl rfl ?_ | refine WL.skip rfl rfl rfl rfl ?_ | refine WL.extract rfl rfl rfl ?_)
  refine WL.alloc (cs := [.map none]) (ZeroTy.of (z := .map none) (by kernel_rfl) rfl) rfl ?_
  intro w4 hg4 hz4 hr4
  refine ⟨trivial, ?_⟩
  refine WL.store (o' := 0) (tyP rfl) rfl rfl rfl hr4 rfl (by simp) ?_
  intro w5 hg5 hz5 hr5
  refine ⟨trivial, ?_⟩
  repeat (first | refine WL.move rfl rfl ?_ | refine WL.assign rfl rfl ?_ | refine W.seq ?_ | refine W.region ?_ | refine WL.nil ?_ | refine Post.next ?_ | refine Post.tail ?_ | refine W.cond_t rfl ?_ | refine W.cond_f rfl ?_ | refine W.block ?_ | refine W.skip ?_ | refine W.exit ?_ | refine W.ret ?_ | refine Post.block_exit ?_ | refine Post.block_other rfl ?_ | refine Post.then_exit ?_ | refine Post.then_ret ?_ | refine Post.block_ret ?_ | refine Post.block_normal ?_ | refine WL.lenS (tyS rfl) rfl rfl ?_ | refine WL.lenStr und9 rfl rfl ?_ | refine WL.fieldAddr (tyF rfl) rfl rfl ?_ | refine WL.not rfl rfl ?_ | refine WL.pick_t rfl rfl rfl ?_ | refine WL.pick_f rfl rfl rfl ?_ | refine WL.want rfl rfl ?_ | refine WL.skip rfl rfl rfl rfl ?_ | refine WL.extract rfl rfl rfl ?_)
  refine WL.makeMap0 rfl ?_
  intro w6 hg6 hz6 hm6
  refine ⟨trivial, ?_⟩
  repeat (first | refine WL.move rfl rfl ?_ | refine WL.assign rfl rfl ?_ | refine W.seq ?_ | refine W.region ?_ | refine WL.nil ?_ | refine Post.next ?_ | refine Post.tail ?_ | refine W.cond_t rfl ?_ | refine W.cond_f rfl ?_ | refine W.block ?_ | refine W.skip ?_ | refine W.exit ?_ | refine W.ret ?_ | refine Post.block_exit ?_ | refine Post.block_other rfl ?_ | refine Post.then_exit ?_ | refine Post.then_ret ?_ | refine Post.block_ret ?_ | refine Post.block_normal ?_ | refine WL.lenS (tyS rfl) rfl rfl ?_ | refine WL.lenStr und9 rfl rfl ?_ | refine WL.fieldAddr (tyF rfl) rfl rfl ?_ | refine WL.not rfl rfl ?_ | refine WL.pick_t rfl rfl rfl ?_ | refine WL.pick_f rfl rfl rfl ?_ | refine WL.want rfl rfl ?_ | refine WL.skip rfl rfl rfl rfl ?_ | refine WL.extract rfl rfl rfl ?_)
  refine WL.alloc (cs := [.map none]) (ZeroTy.of (z := .map none) (by kernel_rfl) rfl) rfl ?_
  intro w7 hg7 hz7 hr7
  refine ⟨trivial, ?_⟩
  refine WL.store (o' := 0) (tyP rfl) rfl rfl rfl hr7 rfl (by simp) ?_
  intro w8 hg8 hz8 hr8
  refine ⟨trivial, ?_⟩
  repeat (first | refine WL.move rfl rfl ?_ | refine WL.assign rfl rfl ?_ | refine W.seq ?_ | refine W.region ?_ | refine WL.nil ?_ | refine Post.next ?_ | refine Post.tail ?_ | refine W.cond_t rfl ?_ | refine W.cond_f rfl ?_ | refine W.block ?_ | refine W.skip ?_ | refine W.exit ?_ | refine W.ret ?_ | refine Post.block_exit ?_ | refine Post.block_other rfl ?_ | refine Post.then_exit ?_ | refine Post.then_ret ?_ | refine Post.block_ret ?_ | refine Post.block_normal ?_ | refine WL.lenS (tyS rfl) rfl rfl ?_ | refine WL.lenStr und9 rfl rfl ?_ | refine WL.fieldAddr (tyF rfl) rfl rfl ?_ | refine WL.not rfl rfl ?_ | refine WL.pick_t rfl rfl rfl ?_ | refine WL.pick_f rfl rfl rfl ?_ | refine WL.want rfl rfl ?_ | refine WL.skip rfl rfl rfl rfl ?_ | refine WL.extract rfl rfl rfl ?_)
  refine WL.makeFunc (args4 rfl rfl rfl rfl) rfl ?_
  repeat (first | refine WL.move rfl rfl ?_ | refine WL.assign rfl rfl ?_ | refine W.seq ?_ | refine W.region ?_ | refine WL.nil ?_ | refine Post.next ?_ | refine Post.tail ?_ | refine W.cond_t rfl ?_ | refine W.cond_f rfl ?_ | refine W.block ?_ | refine W.skip ?_ | refine W.exit ?_ | refine W.ret ?_ | refine Post.block_exit ?_ | refine Post.block_other rfl ?_ | refine Post.then_exit ?_ | refine Post.then_ret ?_ | refine Post.block_ret ?_ | refine Post.block_normal ?_ | refine WL.lenS (tyS rfl) rfl rfl ?_ | refine WL.lenStr und9 rfl rfl ?_ | refine WL.fieldAddr (tyF rfl) rfl rfl ?_ | refine WL.not rfl rfl ?_ | refine WL.pick_t rfl rfl rfl ?_ | refine WL.pick_f rfl rfl rfl ?_ | refine WL.want rfl rfl ?_ | refine WL.skip rfl rfl rfl rfl ?_ | refine WL.extract rfl rfl rfl ?_)
  have u1 : Up w w1 := Up.grown hg1
  have u2 : Up w1 w2 := Up.grown hg2
  have u3 : Up w2 w3 := Up.grown hg3
  have u5 : Up w3 w5 := (Up.grown hg4).step hg5 (by intro j hj; cases hj; exact Nat.le_refl _)
  have u6 : Up w5 w6 := Up.grown hg6
  have u8 : Up w6 w8 := (Up.grown hg7).step hg8 (by intro j hj; cases hj; exact Nat.le_refl _)
  have U2 : Up w w2 := u1.trans u2
  have U5 : Up w2 w8 := (u3.trans u5).trans (u6.trans u8)
  have hmapne : ∀ {v : Value} {m : KV} {r : Nat}, MapV w v m → w.heap.size ≤ r → v ≠ .map (some r) := by
    intro v m r h hr e
    rcases h with ⟨e', _⟩ | ⟨g, e', h⟩
    · rw [e'] at e; cases e
    · rw [e'] at e; cases e; have := h.lt_size; omega
  have hM : LM w8 w3.heap.size w.heap.size w6.heap.size w1.heap.size w2.heap.size w5.heap.size w8.heap.size va vb A B [] [] [] := by
    refine ⟨hr5.up (u6.trans u8), hr1.up (u2.trans U5), hr8, hr2.up U5, hva.up (U2.trans U5), hvb.up (U2.trans U5), ⟨hm3.up (u5.trans (u6.trans u8)), by simp [keys], by simp [mget], by simp [mget]⟩, hm6.up u8, by simp [mget], by omega, ⟨hmapne hva ?_, hmapne hva ?_, hmapne hvb ?_, hmapne hvb ?_⟩, ?_⟩
    all_goals first | omega | (refine ⟨?_, ?_, ?_, ?_, Nat.le_refl _⟩ <;> omega)
  have hUp8 : Up w w8 := U2.trans U5
  have hwB : w.heap.size ≤ w8.heap.size := hUp8.size
  have hri : w.heap.size ≤ w2.heap.size := by omega
  have hrm : w.heap.size ≤ w5.heap.size := by omega
  have hri' : w2.heap.size < w8.heap.size := by omega
  have hrm' : w5.heap.size < w8.heap.size := by omega
  generalize w3.heap.size = gi at *
  generalize hga : w.heap.size = ga at *
  generalize w6.heap.size = gm at *
  generalize w1.heap.size = gb at *
  generalize w2.heap.size = ri at *
  generalize w5.heap.size = rm at *
  clear u1 u2 u3 u5 u6 u8 U2 U5 hr1 hr2 hm3 hr4 hr5 hm6 hr7 hr8 hg1 hg2 hg3 hg4 hg5 hg6 hg7 hg8 hz1 hz2 hz3 hz4 hz5 hz6 hz7 hz8
  refine WL.load (o' := 0) (tyP rfl) rfl (fun _ e => e) (hM.ba.cell rfl) rfl rfl ?_
  repeat (first | refine WL.move rfl rfl ?_ | refine WL.assign rfl rfl ?_ | refine W.seq ?_ | refine W.region ?_ | refine WL.nil ?_ | refine Post.next ?_ | refine Post.tail ?_ | refine W.cond_t rfl ?_ | refine W.cond_f rfl ?_ | refine W.block ?_ | refine W.skip ?_ | refine W.exit ?_ | refine W.ret ?_ | refine Post.block_exit ?_ | refine Post.block_other rfl ?_ | refine Post.then_exit ?_ | refine Post.then_ret ?_ | refine Post.block_ret ?_ | refine Post.block_normal ?_ | refine WL.lenS (tyS rfl) rfl rfl ?_ | refine WL.lenStr und9 rfl rfl ?_ | refine WL.fieldAddr (tyF rfl) rfl rfl ?_ | refine WL.not rfl rfl ?_ | refine WL.pick_t rfl rfl rfl ?_ | refine WL.pick_f rfl rfl rfl ?_ | refine WL.want rfl rfl ?_ | refine WL.skip rfl rfl rfl rfl ?_ | refine WL.extract rfl rfl rfl ?_)
  refine WL.range map45 rfl hM.ma rfl ?_
  intro w9 hg9 hz9 hi9
  refine ⟨trivial, ?_⟩
  have hM9 := hM.up (Up.grown hg9)
  have hU9 : Up w w9 := hUp8.trans (Up.grown hg9)
  have hvit : va ≠ .map (some w8.heap.size) := by
    rcases hM.ma with ⟨e, _⟩ | ⟨g, e, h⟩
    · rw [e]; intro h; cases h
    · rw [e]; intro h'; cases h'; have := h.lt_size; omega
  generalize hB1 : w8.heap.size = B1 at *
  repeat (first | refine WL.move rfl rfl ?_ | refine WL.assign rfl rfl ?_ | refine W.seq ?_ | refine W.region ?_ | refine WL.nil ?_ | refine Post.next ?_ | refine Post.tail ?_ | refine W.cond_t rfl ?_ | refine W.cond_f rfl ?_ | refine W.block ?_ | refine W.skip ?_ | refine W.exit ?_ | refine W.ret ?_ | refine Post.block_exit ?_ | refine Post.block_other rfl ?_ | refine Post.then_exit ?_ | refine Post.then_ret ?_ | refine Post.block_ret ?_ | refine Post.block_normal ?_ | refine WL.lenS (tyS rfl) rfl rfl ?_ | refine WL.lenStr und9 rfl rfl ?_ | refine WL.fieldAddr (tyF rfl) rfl rfl ?_ | refine WL.not rfl rfl ?_ | refine WL.pick_t rfl rfl rfl ?_ | refine WL.pick_f rfl rfl rfl ?_ | refine WL.want rfl rfl ?_ | refine WL.skip rfl rfl rfl rfl ?_ | refine WL.extract rfl rfl rfl ?_)
  refine W.loop4 (fun (_ : KV) (_ : List ByteArray) (_ _ : KV) => [(2, .pointer (some ⟨ga, 0, none⟩)), (3, .pointer (some ⟨gb, 0, none⟩)), (5, .pointer (some ⟨gi, 0, none⟩)), (6, .pointer (some ⟨gm, 0, none⟩)), (7, .func (.func 46) #[] #[.pointer (some ⟨gi, 0, none⟩), .pointer (some ⟨ga, 0, none⟩), .pointer (some ⟨gm, 0, none⟩), .pointer (some ⟨gb, 0, none⟩)]), (16, .pointer (some ⟨B1, 0, none⟩))])
    (fun rem K im bm wr => LM wr gi ga gm gb ri rm B1 va vb A B K im bm ∧ LInv (fun k => k ∈ keys A ∨ k ∈ keys B) (fun k => k ∈ keys A ∧ k ∉ keys rem) K (keys bm) eB ∧ (∃ cur, Iter wr B1 va A rem cur) ∧ (keys rem).Nodup ∧ (∀ k ∈ keys rem, k ∈ keys A) ∧ K.length + 4096 * rem.length ≤ 4096 * A.length ∧ Up w wr) (fun rem _ _ _ => rem.length) A [] [] []
    ⟨rfl, rfl, rfl, rfl, rfl, rfl, trivial⟩ ⟨hM9, (LInv.init _).congr (fun q => by simp), ⟨_, hi9⟩, hAd, fun _ h => h, by simp, hU9⟩ ?_
  rintro rem K im bm wr ⟨hm, hi, ⟨cur, hit⟩, hrn, hrs, hlen, hu⟩
  repeat (first | refine WL.move rfl rfl ?_ | refine WL.assign rfl rfl ?_ | refine W.seq ?_ | refine W.region ?_ | refine WL.nil ?_ | refine Post.next ?_ | refine Post.tail ?_ | refine W.cond_t rfl ?_ | refine W.cond_f rfl ?_ | refine W.block ?_ | refine W.skip ?_ | refine W.exit ?_ | refine W.ret ?_ | refine Post.block_exit ?_ | refine Post.block_other rfl ?_ | refine Post.then_exit ?_ | refine Post.then_ret ?_ | refine Post.block_ret ?_ | refine Post.block_normal ?_ | refine WL.lenS (tyS rfl) rfl rfl ?_ | refine WL.lenStr und9 rfl rfl ?_ | refine WL.fieldAddr (tyF rfl) rfl rfl ?_ | refine WL.not rfl rfl ?_ | refine WL.pick_t rfl rfl rfl ?_ | refine WL.pick_f rfl rfl rfl ?_ | refine WL.want rfl rfl ?_ | refine WL.skip rfl rfl rfl rfl ?_ | refine WL.extract rfl rfl rfl ?_)
  refine WL.next rfl hit hvit rfl ?_ ?_
  · rintro rfl _
    repeat (first | refine WL.move rfl rfl ?_ | refine WL.assign rfl rfl ?_ | refine W.seq ?_ | refine W.region ?_ | refine WL.nil ?_ | refine Post.next ?_ | refine Post.tail ?_ | refine W.cond_t rfl ?_ | refine W.cond_f rfl ?_ | refine W.block ?_ | refine W.skip ?_ | refine W.exit ?_ | refine W.ret ?_ | refine Post.block_exit ?_ | refine Post.block_other rfl ?_ | refine Post.then_exit ?_ | refine Post.then_ret ?_ | refine Post.block_ret ?_ | refine Post.block_normal ?_ | refine WL.lenS (tyS rfl) rfl rfl ?_ | refine WL.lenStr und9 rfl rfl ?_ | refine WL.fieldAddr (tyF rfl) rfl rfl ?_ | refine WL.not rfl rfl ?_ | refine WL.pick_t rfl rfl rfl ?_ | refine WL.pick_f rfl rfl rfl ?_ | refine WL.want rfl rfl ?_ | refine WL.skip rfl rfl rfl rfl ?_ | refine WL.extract rfl rfl rfl ?_)
    -- the second tree
    refine WL.load (o' := 0) (tyP rfl) rfl (fun _ e => e) (hm.bb.cell rfl) rfl rfl ?_
    repeat (first | refine WL.move rfl rfl ?_ | refine WL.assign rfl rfl ?_ | refine W.seq ?_ | refine W.region ?_ | refine WL.nil ?_ | refine Post.next ?_ | refine Post.tail ?_ | refine W.cond_t rfl ?_ | refine W.cond_f rfl ?_ | refine W.block ?_ | refine W.skip ?_ | refine W.exit ?_ | refine W.ret ?_ | refine Post.block_exit ?_ | refine Post.block_other rfl ?_ | refine Post.then_exit ?_ | refine Post.then_ret ?_ | refine Post.block_ret ?_ | refine Post.block_normal ?_ | refine WL.lenS (tyS rfl) rfl rfl ?_ | refine WL.lenStr und9 rfl rfl ?_ | refine WL.fieldAddr (tyF rfl) rfl rfl ?_ | refine WL.not rfl rfl ?_ | refine WL.pick_t rfl rfl rfl ?_ | refine WL.pick_f rfl rfl rfl ?_ | refine WL.want rfl rfl ?_ | refine WL.skip rfl rfl rfl rfl ?_ | refine WL.extract rfl rfl rfl ?_)
    refine WL.range map45 rfl hm.mb rfl ?_
    intro wa hga' hza hia
    refine ⟨trivial, ?_⟩
    have hma := hm.up (Up.grown hga')
    have hua : Up w wa := hu.trans (Up.grown hga')
    have hvib : vb ≠ .map (some wr.heap.size) := by
      rcases hm.mb with ⟨e, _⟩ | ⟨g, e, h⟩
      · rw [e]; intro h; cases h
      · rw [e]; intro h'; cases h'; have := h.lt_size; omega
    have hle : B1 ≤ wr.heap.size := hm.lo.2.2.2.2
    have hwr := hu.size
    generalize wr.heap.size = it at *
    repeat (first | refine WL.move rfl rfl ?_ | refine WL.assign rfl rfl ?_ | refine W.seq ?_ | refine W.region ?_ | refine WL.nil ?_ | refine Post.next ?_ | refine Post.tail ?_ | refine W.cond_t rfl ?_ | refine W.cond_f rfl ?_ | refine W.block ?_ | refine W.skip ?_ | refine W.exit ?_ | refine W.ret ?_ | refine Post.block_exit ?_ | refine Post.block_other rfl ?_ | refine Post.then_exit ?_ | refine Post.then_ret ?_ | refine Post.block_ret ?_ | refine Post.block_normal ?_ | refine WL.lenS (tyS rfl) rfl rfl ?_ | refine WL.lenStr und9 rfl rfl ?_ | refine WL.fieldAddr (tyF rfl) rfl rfl ?_ | refine WL.not rfl rfl ?_ | refine WL.pick_t rfl rfl rfl ?_ | refine WL.pick_f rfl rfl rfl ?_ | refine WL.want rfl rfl ?_ | refine WL.skip rfl rfl rfl rfl ?_ | refine WL.extract rfl rfl rfl ?_)
    refine W.loop4 (fun (_ : KV) (_ : List ByteArray) (_ _ : KV) => [(2, .pointer (some ⟨ga, 0, none⟩)), (3, .pointer (some ⟨gb, 0, none⟩)), (5, .pointer (some ⟨gi, 0, none⟩)), (6, .pointer (some ⟨gm, 0, none⟩)), (7, .func (.func 46) #[] #[.pointer (some ⟨gi, 0, none⟩), .pointer (some ⟨ga, 0, none⟩), .pointer (some ⟨gm, 0, none⟩), .pointer (some ⟨gb, 0, none⟩)]), (25, .pointer (some ⟨it, 0, none⟩))])
      (fun rem K im bm wr => LM wr gi ga gm gb ri rm B1 va vb A B K im bm ∧ LInv (fun k => k ∈ keys A ∨ k ∈ keys B) (fun k => k ∈ keys A ∨ (k ∈ keys B ∧ k ∉ keys rem)) K (keys bm) eB ∧ (∃ cur, Iter wr it vb B rem cur) ∧ (keys rem).Nodup ∧ (∀ k ∈ keys rem, k ∈ keys B) ∧ K.length + 4096 * rem.length ≤ 4096 * A.length + 4096 * B.length ∧ Up w wr) (fun rem _ _ _ => rem.length) B K im bm
      ⟨rfl, rfl, rfl, rfl, rfl, rfl, trivial⟩ ⟨hma, hi.congr (fun q => ⟨fun h => ⟨h.elim id (fun h => absurd h.1 h.2), by simp [keys]⟩, fun h => .inl h.1⟩), ⟨_, hia⟩, hBd, fun _ h => h, by simp at hlen; omega, hua⟩ ?_
    clear hi hlen hm hma hit hia hga' hza hu hua
    rintro rem K im bm wr ⟨hm, hi, ⟨cur, hit⟩, hrn, hrs, hlen, hu⟩
    repeat (first | refine WL.move rfl rfl ?_ | refine WL.assign rfl rfl ?_ | refine W.seq ?_ | refine W.region ?_ | refine WL.nil ?_ | refine Post.next ?_ | refine Post.tail ?_ | refine W.cond_t rfl ?_ | refine W.cond_f rfl ?_ | refine W.block ?_ | refine W.skip ?_ | refine W.exit ?_ | refine W.ret ?_ | refine Post.block_exit ?_ | refine Post.block_other rfl ?_ | refine Post.then_exit ?_ | refine Post.then_ret ?_ | refine Post.block_ret ?_ | refine Post.block_normal ?_ | refine WL.lenS (tyS rfl) rfl rfl ?_ | refine WL.lenStr und9 rfl rfl ?_ | refine WL.fieldAddr (tyF rfl) rfl rfl ?_ | refine WL.not rfl rfl ?_ | refine WL.pick_t rfl rfl rfl ?_ | refine WL.pick_f rfl rfl rfl ?_ | refine WL.want rfl rfl ?_ | refine WL.skip rfl rfl rfl rfl ?_ | refine WL.extract rfl rfl rfl ?_)
    refine WL.next rfl hit hvib rfl ?_ ?_
    · rintro rfl _
      repeat (first | refine WL.move rfl rfl ?_ | refine WL.assign rfl rfl ?_ | refine W.seq ?_ | refine W.region ?_ | refine WL.nil ?_ | refine Post.next ?_ | refine Post.tail ?_ | refine W.cond_t rfl ?_ | refine W.cond_f rfl ?_ | refine W.block ?_ | refine W.skip ?_ | refine W.exit ?_ | refine W.ret ?_ | refine Post.block_exit ?_ | refine Post.block_other rfl ?_ | refine Post.then_exit ?_ | refine Post.then_ret ?_ | refine Post.block_ret ?_ | refine Post.block_normal ?_ | refine WL.lenS (tyS rfl) rfl rfl ?_ | refine WL.lenStr und9 rfl rfl ?_ | refine WL.fieldAddr (tyF rfl) rfl rfl ?_ | refine WL.not rfl rfl ?_ | refine WL.pick_t rfl rfl rfl ?_ | refine WL.pick_f rfl rfl rfl ?_ | refine WL.want rfl rfl ?_ | refine WL.skip rfl rfl rfl rfl ?_ | refine WL.extract rfl rfl rfl ?_)
      refine WL.load (o' := 0) (tyP rfl) rfl (fun _ e => e) (hm.bi.cell rfl) rfl rfl ?_
      repeat (first | refine WL.move rfl rfl ?_ | refine WL.assign rfl rfl ?_ | refine W.seq ?_ | refine W.region ?_ | refine WL.nil ?_ | refine Post.next ?_ | refine Post.tail ?_ | refine W.cond_t rfl ?_ | refine W.cond_f rfl ?_ | refine W.block ?_ | refine W.skip ?_ | refine W.exit ?_ | refine W.ret ?_ | refine Post.block_exit ?_ | refine Post.block_other rfl ?_ | refine Post.then_exit ?_ | refine Post.then_ret ?_ | refine Post.block_ret ?_ | refine Post.block_normal ?_ | refine WL.lenS (tyS rfl) rfl rfl ?_ | refine WL.lenStr und9 rfl rfl ?_ | refine WL.fieldAddr (tyF rfl) rfl rfl ?_ | refine WL.not rfl rfl ?_ | refine WL.pick_t rfl rfl rfl ?_ | refine WL.pick_f rfl rfl rfl ?_ | refine WL.want rfl rfl ?_ | refine WL.skip rfl rfl rfl rfl ?_ | refine WL.extract rfl rfl rfl ?_)
      have hi' := hi.congr (D' := fun k => k ∈ keys A ∨ k ∈ keys B) (fun q => by simp [keys])
      exact Post.ret1 rfl rfl ⟨B1, ri, K, im, rfl, hm.ix, hi'.nd, hi'.full, by simp at hlen; omega, hu⟩
    · intro c rem' wb hperm hgb hzb hib
      refine ⟨trivial, ?_⟩
      have hmb := hm.iter hit.at hgb
      have hub := hu.step hgb (by intro j hj; cases hj; omega)
      have hkp := keys_perm hperm
      have hlp := hperm.length_eq
      simp only [List.length_cons] at hlp
      have hnn := hkp.nodup_iff.1 hrn
      have hc1 : c.1 ∉ keys rem' := (List.nodup_cons.1 hnn).1
      have hcB : c.1 ∈ keys B := hrs _ (hkp.mem_iff.2 (by simp [keys]))
      have hkm : ∀ k, k ∈ keys rem ↔ k = c.1 ∨ k ∈ keys rem' := fun k => by rw [hkp.mem_iff]; simp [keys]
      repeat (first | refine WL.move rfl rfl ?_ | refine WL.assign rfl rfl ?_ | refine W.seq ?_ | refine W.region ?_ | refine WL.nil ?_ | refine Post.next ?_ | refine Post.tail ?_ | refine W.cond_t rfl ?_ | refine W.cond_f rfl ?_ | refine W.block ?_ | refine W.skip ?_ | refine W.exit ?_ | refine W.ret ?_ | refine Post.block_exit ?_ | refine Post.block_other rfl ?_ | refine Post.then_exit ?_ | refine Post.then_ret ?_ | refine Post.block_ret ?_ | refine Post.block_normal ?_ | refine WL.lenS (tyS rfl) rfl rfl ?_ | refine WL.lenStr und9 rfl rfl ?_ | refine WL.fieldAddr (tyF rfl) rfl rfl ?_ | refine WL.not rfl rfl ?_ | refine WL.pick_t rfl rfl rfl ?_ | refine WL.pick_f rfl rfl rfl ?_ | refine WL.want rfl rfl ?_ | refine WL.skip rfl rfl rfl rfl ?_ | refine WL.extract rfl rfl rfl ?_)
      refine WL.entry rfl (fun _ e => e) hib rfl ?_
      repeat (first | refine WL.move rfl rfl ?_ | refine WL.assign rfl rfl ?_ | refine W.seq ?_ | refine W.region ?_ | refine WL.nil ?_ | refine Post.next ?_ | refine Post.tail ?_ | refine W.cond_t rfl ?_ | refine W.cond_f rfl ?_ | refine W.block ?_ | refine W.skip ?_ | refine W.exit ?_ | refine W.ret ?_ | refine Post.block_exit ?_ | refine Post.block_other rfl ?_ | refine Post.then_exit ?_ | refine Post.then_ret ?_ | refine Post.block_ret ?_ | refine Post.block_normal ?_ | refine WL.lenS (tyS rfl) rfl rfl ?_ | refine WL.lenStr und9 rfl rfl ?_ | refine WL.fieldAddr (tyF rfl) rfl rfl ?_ | refine WL.not rfl rfl ?_ | refine WL.pick_t rfl rfl rfl ?_ | refine WL.pick_f rfl rfl rfl ?_ | refine WL.want rfl rfl ?_ | refine WL.skip rfl rfl rfl rfl ?_ | refine WL.extract rfl rfl rfl ?_)
      refine WL.load (o' := 0) (tyP rfl) rfl (fun _ e => e) (hmb.ba.cell rfl) rfl rfl ?_
      repeat (first | refine WL.move rfl rfl ?_ | refine WL.assign rfl rfl ?_ | refine W.seq ?_ | refine W.region ?_ | refine WL.nil ?_ | refine Post.next ?_ | refine Post.tail ?_ | refine W.cond_t rfl ?_ | refine W.cond_f rfl ?_ | refine W.block ?_ | refine W.skip ?_ | refine W.exit ?_ | refine W.ret ?_ | refine Post.block_exit ?_ | refine Post.block_other rfl ?_ | refine Post.then_exit ?_ | refine Post.then_ret ?_ | refine Post.block_ret ?_ | refine Post.block_normal ?_ | refine WL.lenS (tyS rfl) rfl rfl ?_ | refine WL.lenStr und9 rfl rfl ?_ | refine WL.fieldAddr (tyF rfl) rfl rfl ?_ | refine WL.not rfl rfl ?_ | refine WL.pick_t rfl rfl rfl ?_ | refine WL.pick_f rfl rfl rfl ?_ | refine WL.want rfl rfl ?_ | refine WL.skip rfl rfl rfl rfl ?_ | refine WL.extract rfl rfl rfl ?_)
      refine WL.look2 map45 rfl rfl (fun _ e => e) hmb.ma rfl ?_
      repeat (first | refine WL.move rfl rfl ?_ | refine WL.assign rfl rfl ?_ | refine W.seq ?_ | refine W.region ?_ | refine WL.nil ?_ | refine Post.next ?_ | refine Post.tail ?_ | refine W.cond_t rfl ?_ | refine W.cond_f rfl ?_ | refine W.block ?_ | refine W.skip ?_ | refine W.exit ?_ | refine W.ret ?_ | refine Post.block_exit ?_ | refine Post.block_other rfl ?_ | refine Post.then_exit ?_ | refine Post.then_ret ?_ | refine Post.block_ret ?_ | refine Post.block_normal ?_ | refine WL.lenS (tyS rfl) rfl rfl ?_ | refine WL.lenStr und9 rfl rfl ?_ | refine WL.fieldAddr (tyF rfl) rfl rfl ?_ | refine WL.not rfl rfl ?_ | refine WL.pick_t rfl rfl rfl ?_ | refine WL.pick_f rfl rfl rfl ?_ | refine WL.want rfl rfl ?_ | refine WL.skip rfl rfl rfl rfl ?_ | refine WL.extract rfl rfl rfl ?_)
      refine WL.alloc zero68 rfl ?_
      intro wc hgc hzc hrc
      refine ⟨trivial, ?_⟩
      obtain ⟨vs, hvs, hvl, hv1⟩ := hA.get c.1
      refine WL.storeAgg (vs := vs) (o' := 0) (tyA rfl) rfl (congrArg some hvs) hvl hv1 hrc rfl (by rw [hvl]; exact Nat.le_refl _) ?_
      intro wd hgd hzd hrd
      refine ⟨trivial, ?_⟩
      have hud : Up wb wd := (Up.grown hgc).step hgd (by intro j hj; cases hj; exact Nat.le_refl _)
      have hmd := hmb.up hud
      have hid : Iter wd it vb B rem' (some c) := hib.of_blocks (hud.block hib.it_lt) (fun g e => by
        rcases hmb.mb with ⟨e', _⟩ | ⟨g', e', h⟩
        · rw [e'] at e; cases e
        · rw [e'] at e; cases e; exact hud.block h.lt_size)
      repeat (first | refine WL.move rfl rfl ?_ | refine WL.assign rfl rfl ?_ | refine W.seq ?_ | refine W.region ?_ | refine WL.nil ?_ | refine Post.next ?_ | refine Post.tail ?_ | refine W.cond_t rfl ?_ | refine W.cond_f rfl ?_ | refine W.block ?_ | refine W.skip ?_ | refine W.exit ?_ | refine W.ret ?_ | refine Post.block_exit ?_ | refine Post.block_other rfl ?_ | refine Post.then_exit ?_ | refine Post.then_ret ?_ | refine Post.block_ret ?_ | refine Post.block_normal ?_ | refine WL.lenS (tyS rfl) rfl rfl ?_ | refine WL.lenStr und9 rfl rfl ?_ | refine WL.fieldAddr (tyF rfl) rfl rfl ?_ | refine WL.not rfl rfl ?_ | refine WL.pick_t rfl rfl rfl ?_ | refine WL.pick_f rfl rfl rfl ?_ | refine WL.want rfl rfl ?_ | refine WL.skip rfl rfl rfl rfl ?_ | refine WL.extract rfl rfl rfl ?_)
      cases ha : mget A c.1 with
      | some ea =>
        have hin : c.1 ∈ keys A := mget_some.1 ⟨_, ha⟩
        repeat (first | refine WL.move rfl rfl ?_ | refine WL.assign rfl rfl ?_ | refine W.seq ?_ | refine W.region ?_ | refine WL.nil ?_ | refine Post.next ?_ | refine Post.tail ?_ | refine W.cond_t rfl ?_ | refine W.cond_f rfl ?_ | refine W.block ?_ | refine W.skip ?_ | refine W.exit ?_ | refine W.ret ?_ | refine Post.block_exit ?_ | refine Post.block_other rfl ?_ | refine Post.then_exit ?_ | refine Post.then_ret ?_ | refine Post.block_ret ?_ | refine Post.block_normal ?_ | refine WL.lenS (tyS rfl) rfl rfl ?_ | refine WL.lenStr und9 rfl rfl ?_ | refine WL.fieldAddr (tyF rfl) rfl rfl ?_ | refine WL.not rfl rfl ?_ | refine WL.pick_t rfl rfl rfl ?_ | refine WL.pick_f rfl rfl rfl ?_ | refine WL.want rfl rfl ?_ | refine WL.skip rfl rfl rfl rfl ?_ | refine WL.extract rfl rfl rfl ?_)
        refine Post.round4 rem' K im bm ⟨rfl, rfl, rfl, rfl, rfl, rfl, trivial⟩ ⟨hmd, hi.congr (fun q => ?_), ⟨_, hid⟩, (List.nodup_cons.1 hnn).2, fun k hk => hrs k ((hkm k).2 (.inr hk)), by omega, hub.trans hud⟩ (by omega)
        rw [hkm]
        constructor
        · rintro (h | ⟨h1, h2⟩)
          · exact .inl h
          · by_cases e : q = c.1
            · subst e; exact .inl hin
            · exact .inr ⟨h1, fun h => h.elim e h2⟩
        · rintro (h | ⟨h1, h2⟩)
          · exact .inl h
          · exact .inr ⟨h1, fun h => h2 (.inr h)⟩
      | none =>
        have hna : c.1 ∉ keys A := mget_none.1 ha
        have hbeg : LInv (fun k => k ∈ keys A ∨ k ∈ keys B) (fun k => k ∈ keys A ∨ (k ∈ keys B ∧ k ∉ keys rem')) K (keys bm) c.1 := by
          refine hi.begin (.inr hcB) (fun h => h.elim hna (fun h => h.2 ((hkm _).2 (.inl rfl)))) (fun q => ?_)
          rw [hkm]
          constructor
          · rintro (h | ⟨h1, h2⟩)
            · exact .inl (.inl h)
            · by_cases e : q = c.1
              · exact .inr e
              · exact .inl (.inr ⟨h1, fun h => h.elim e h2⟩)
          · rintro ((h | ⟨h1, h2⟩) | rfl)
            · exact .inl h
            · exact .inr ⟨h1, fun h => h2 (.inr h)⟩
            · exact .inr ⟨hcB, hc1⟩
        have hcs := hBk _ hcB
        repeat (first | refine WL.move rfl rfl ?_ | refine WL.assign rfl rfl ?_ | refine W.seq ?_ | refine W.region ?_ | refine WL.nil ?_ | refine Post.next ?_ | refine Post.tail ?_ | refine W.cond_t rfl ?_ | refine W.cond_f rfl ?_ | refine W.block ?_ | refine W.skip ?_ | refine W.exit ?_ | refine W.ret ?_ | refine Post.block_exit ?_ | refine Post.block_other rfl ?_ | refine Post.then_exit ?_ | refine Post.then_ret ?_ | refine Post.block_ret ?_ | refine Post.block_normal ?_ | refine WL.lenS (tyS rfl) rfl rfl ?_ | refine WL.lenStr und9 rfl rfl ?_ | refine WL.fieldAddr (tyF rfl) rfl rfl ?_ | refine WL.not rfl rfl ?_ | refine WL.pick_t rfl rfl rfl ?_ | refine WL.pick_f rfl rfl rfl ?_ | refine WL.want rfl rfl ?_ | refine WL.skip rfl rfl rfl rfl ?_ | refine WL.extract rfl rfl rfl ?_)
        refine WL.callV _ (fnT rfl) rfl (args1 rfl) (link_c wd gi ga gm gb ri rm B1 va vb A B _ _ K im bm c.1 hmd hbeg (fun _ => Iff.rfl) hA hB (by omega)) (by rintro e w' ⟨rfl, _⟩; exact ⟨_, rfl⟩) rfl ?_
        rintro v we ⟨hv, K', im', bm', hme, hie, hle', hrel⟩
        cases hv
        refine ⟨trivial, ?_⟩
        repeat (first | refine WL.move rfl rfl ?_ | refine WL.assign rfl rfl ?_ | refine W.seq ?_ | refine W.region ?_ | refine WL.nil ?_ | refine Post.next ?_ | refine Post.tail ?_ | refine W.cond_t rfl ?_ | refine W.cond_f rfl ?_ | refine W.block ?_ | refine W.skip ?_ | refine W.exit ?_ | refine W.ret ?_ | refine Post.block_exit ?_ | refine Post.block_other rfl ?_ | refine Post.then_exit ?_ | refine Post.then_ret ?_ | refine Post.block_ret ?_ | refine Post.block_normal ?_ | refine WL.lenS (tyS rfl) rfl rfl ?_ | refine WL.lenStr und9 rfl rfl ?_ | refine WL.fieldAddr (tyF rfl) rfl rfl ?_ | refine WL.not rfl rfl ?_ | refine WL.pick_t rfl rfl rfl ?_ | refine WL.pick_f rfl rfl rfl ?_ | refine WL.want rfl rfl ?_ | refine WL.skip rfl rfl rfl rfl ?_ | refine WL.extract rfl rfl rfl ?_)
        refine Post.round4 rem' K' im' bm' ⟨rfl, rfl, rfl, rfl, rfl, rfl, trivial⟩ ⟨hme, hie, ⟨_, hid.lrel hrel (by omega) (by omega) ⟨hmd.na.2.2.1, hmd.na.2.2.2⟩⟩, (List.nodup_cons.1 hnn).2, fun k hk => hrs k ((hkm k).2 (.inr hk)), by omega, (hub.trans hud).lrel hrel (by omega) (by omega) (by omega)⟩ (by omega)
  · intro c rem' wb hperm hgb hzb hib
    refine ⟨trivial, ?_⟩
    have hmb := hm.iter hit.at hgb
    have hub := hu.step hgb (by intro j hj; cases hj; omega)
    have hkp := keys_perm hperm
    have hlp := hperm.length_eq
    simp only [List.length_cons] at hlp
    have hnn := hkp.nodup_iff.1 hrn
    have hc1 : c.1 ∉ keys rem' := (List.nodup_cons.1 hnn).1
    have hcA : c.1 ∈ keys A := hrs _ (hkp.mem_iff.2 (by simp [keys]))
    have hkm : ∀ k, k ∈ keys rem ↔ k = c.1 ∨ k ∈ keys rem' := fun k => by rw [hkp.mem_iff]; simp [keys]
    have hbeg : LInv (fun k => k ∈ keys A ∨ k ∈ keys B) (fun k => k ∈ keys A ∧ k ∉ keys rem') K (keys bm) c.1 := by
      refine hi.begin (.inl hcA) (fun h => h.2 ((hkm _).2 (.inl rfl))) (fun q => ?_)
      rw [hkm]
      constructor
      · rintro ⟨h1, h2⟩
        by_cases e : q = c.1
        · exact .inr e
        · exact .inl ⟨h1, fun h => h.elim e h2⟩
      · rintro (⟨h1, h2⟩ | rfl)
        · exact ⟨h1, fun h => h2 (.inr h)⟩
        · exact ⟨hcA, hc1⟩
    have hcs := hAk _ hcA
    repeat (first | refine WL.move rfl rfl ?_ | refine WL.assign rfl rfl ?_ | refine W.seq ?_ | refine W.region ?_ | refine WL.nil ?_ | refine Post.next ?_ | refine Post.tail ?_ | refine W.cond_t rfl ?_ | refine W.cond_f rfl ?_ | refine W.block ?_ | refine W.skip ?_ | refine W.exit ?_ | refine W.ret ?_ | refine Post.block_exit ?_ | refine Post.block_other rfl ?_ | refine Post.then_exit ?_ | refine Post.then_ret ?_ | refine Post.block_ret ?_ | refine Post.block_normal ?_ | refine WL.lenS (tyS rfl) rfl rfl ?_ | refine WL.lenStr und9 rfl rfl ?_ | refine WL.fieldAddr (tyF rfl) rfl rfl ?_ | refine WL.not rfl rfl ?_ | refine WL.pick_t rfl rfl rfl ?_ | refine WL.pick_f rfl rfl rfl ?_ | refine WL.want rfl rfl ?_ | refine WL.skip rfl rfl rfl rfl ?_ | refine WL.extract rfl rfl rfl ?_)
    refine WL.entry rfl (fun _ e => e) hib rfl ?_
    repeat (first | refine WL.move rfl rfl ?_ | refine WL.assign rfl rfl ?_ | refine W.seq ?_ | refine W.region ?_ | refine WL.nil ?_ | refine Post.next ?_ | refine Post.tail ?_ | refine W.cond_t rfl ?_ | refine W.cond_f rfl ?_ | refine W.block ?_ | refine W.skip ?_ | refine W.exit ?_ | refine W.ret ?_ | refine Post.block_exit ?_ | refine Post.block_other rfl ?_ | refine Post.then_exit ?_ | refine Post.then_ret ?_ | refine Post.block_ret ?_ | refine Post.block_normal ?_ | refine WL.lenS (tyS rfl) rfl rfl ?_ | refine WL.lenStr und9 rfl rfl ?_ | refine WL.fieldAddr (tyF rfl) rfl rfl ?_ | refine WL.not rfl rfl ?_ | refine WL.pick_t rfl rfl rfl ?_ | refine WL.pick_f rfl rfl rfl ?_ | refine WL.want rfl rfl ?_ | refine WL.skip rfl rfl rfl rfl ?_ | refine WL.extract rfl rfl rfl ?_)
    refine WL.callV _ (fnT rfl) rfl (args1 rfl) (link_c wb gi ga gm gb ri rm B1 va vb A B _ _ K im bm c.1 hmb hbeg (fun _ => Iff.rfl) hA hB (by omega)) (by rintro e w' ⟨rfl, _⟩; exact ⟨_, rfl⟩) rfl ?_
    rintro v we ⟨hv, K', im', bm', hme, hie, hle', hrel⟩
    cases hv
    refine ⟨trivial, ?_⟩
    repeat (first | refine WL.move rfl rfl ?_ | refine WL.assign rfl rfl ?_ | refine W.seq ?_ | refine W.region ?_ | refine WL.nil ?_ | refine Post.next ?_ | refine Post.tail ?_ | refine W.cond_t rfl ?_ | refine W.cond_f rfl ?_ | refine W.block ?_ | refine W.skip ?_ | refine W.exit ?_ | refine W.ret ?_ | refine Post.block_exit ?_ | refine Post.block_other rfl ?_ | refine Post.then_exit ?_ | refine Post.then_ret ?_ | refine Post.block_ret ?_ | refine Post.block_normal ?_ | refine WL.lenS (tyS rfl) rfl rfl ?_ | refine WL.lenStr und9 rfl rfl ?_ | refine WL.fieldAddr (tyF rfl) rfl rfl ?_ | refine WL.not rfl rfl ?_ | refine WL.pick_t rfl rfl rfl ?_ | refine WL.pick_f rfl rfl rfl ?_ | refine WL.want rfl rfl ?_ | refine WL.skip rfl rfl rfl rfl ?_ | refine WL.extract rfl rfl rfl ?_)
    refine Post.round4 rem' K' im' bm' ⟨rfl, rfl, rfl, rfl, rfl, rfl, trivial⟩ ⟨hme, hie, ⟨_, hib.lrel hrel (by omega) (by omega) ⟨hmb.na.1, hmb.na.2.1⟩⟩, (List.nodup_cons.1 hnn).2, fun k hk => hrs k ((hkm k).2 (.inr hk)), by omega, hub.lrel hrel (by omega) (by omega) (by omega)⟩ (by omega)
theorem zzChildren_c (w : World) (va vb : Value) (A B : KV) (hva : MapV w va A) (hvb : MapV w vb B) (hA : EntsOk A) (hB : EntsOk B) (hAk : ∀ k ∈ keys A, k.size ≤ 4096) (hBk : ∀ k ∈ keys B, k.size ≤ 4096) (hAl : A.length ≤ 1048576) (hBl : B.length ≤ 1048576) (hAd : (keys A).Nodup) (hBd : (keys B).Nodup) :
    Calls Try.prog 24 #[va, vb] w fun e w' => ∃ B1 ri L im, e = .returned (.map (some ri)) ∧ Idx w' B1 ri L im ∧ L.Nodup ∧ (∀ q, q ∈ L ↔ q ≠ eB ∧ Anc (fun k => k ∈ keys A ∨ k ∈ keys B) q) ∧ L.length ≤ 8589934592 ∧ Up w w' := by
  refine Calls.of_W (args := [va, vb]) Try.func24 rfl rfl rfl ?_
  repeat (first | refine WL.move rfl rfl ?_ | refine WL.assign rfl rfl ?_ | refine W.seq ?_ | refine W.region ?_ | refine WL.nil ?_ | refine Post.next ?_ | refine Post.tail ?_ | refine W.cond_t rfl ?_ | refine W.cond_f rfl ?_ | refine W.block ?_ | refine W.skip ?_ | refine W.exit ?_ | refine W.ret ?_ | refine Post.block_exit ?_ | refine Post.block_other rfl ?_ | refine Post.then_exit ?_ | refine Post.then_ret ?_ | refine Post.block_ret ?_ | refine Post.block_normal ?_ | refine WL.lenS (tyS rfl) rfl rfl ?_ | refine WL.lenStr und9 rfl rfl ?_ | refine WL.fieldAddr (tyF rfl) rfl rfl ?_ | refine WL.not rfl rfl ?_ | refine WL.pick_t rfl rfl rfl ?_ | refine WL.pick_f rfl rfl rfl ?_ | refine WL.want rfl rfl ?_ | refine WL.skip rfl rfl rfl rfl ?_ | refine WL.extract rfl rfl rfl ?_)
  refine WL.call _ (fnT rfl) (args2 rfl rfl) (children_c w va vb A B hva hvb hA hB hAk hBk hAl hBl hAd hBd) (by rintro e w' ⟨_, _, _, _, rfl, _⟩; exact ⟨_, rfl⟩) rfl ?_
  rintro v w1 ⟨B1, ri, L, im, hv, h⟩
  cases hv
  refine ⟨trivial, ?_⟩
  repeat (first | refine WL.move rfl rfl ?_ | refine WL.assign rfl rfl ?_ | refine W.seq ?_ | refine W.region ?_ | refine WL.nil ?_ | refine Post.next ?_ | refine Post.tail ?_ | refine W.cond_t rfl ?_ | refine W.cond_f rfl ?_ | refine W.block ?_ | refine W.skip ?_ | refine W.exit ?_ | refine W.ret ?_ | refine Post.block_exit ?_ | refine Post.block_other rfl ?_ | refine Post.then_exit ?_ | refine Post.then_ret ?_ | refine Post.block_ret ?_ | refine Post.block_normal ?_ | refine WL.lenS (tyS rfl) rfl rfl ?_ | refine WL.lenStr und9 rfl rfl ?_ | refine WL.fieldAddr (tyF rfl) rfl rfl ?_ | refine WL.not rfl rfl ?_ | refine WL.pick_t rfl rfl rfl ?_ | refine WL.pick_f rfl rfl rfl ?_ | refine WL.want rfl rfl ?_ | refine WL.skip rfl rfl rfl rfl ?_ | refine WL.extract rfl rfl rfl ?_)
  exact Post.ret1 rfl rfl ⟨B1, ri, L, im, rfl, h⟩
end Go.Lx
