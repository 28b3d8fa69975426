import Derived.Test.Qxb6602828aCh2
namespace Go.Lx
open Go.Proofs Go.RowKit

/-! ### The memory of 'children' -/
structure Idx (w : World) (B1 ri : Nat) (L : List ByteArray) (im : KV) : Prop where
  map : MapIs w ri im
  ks : ∀ d, d ∈ keys im ↔ ∃ q ∈ L, parentG q = d
  rows : ∀ d v, mget im d = some v → w.ownsRow B1 9 1 v (kids L d).length ((kids L d).map Value.string)
  apart : ∀ d d' v v' g, mget im d = some v → mget im d' = some v' → v.ownBlock = some g → v'.ownBlock = some g → d = d'
theorem own_ne_map {w : World} {B e k n r : Nat} {v : Value} {xs : List Value} {m : KV} (h : w.ownsRow B e k v n xs) (hm : MapIs w r m) : v.ownBlock ≠ some r := by
  intro e
  rcases h.2 with ⟨rfl, _⟩ | ⟨g, cap, cur, rfl, _, hg, _⟩
  · simp [Value.ownBlock] at e
  · simp [Value.ownBlock] at e
    subst e
    obtain ⟨bs, clock, h⟩ := hm
    rw [h.at_] at hg
    cases hg
theorem Idx.up {w w' : World} {B1 ri : Nat} {L : List ByteArray} {im : KV} (h : Idx w B1 ri L im) (hu : Up w w') : Idx w' B1 ri L im :=
  ⟨h.map.up hu, h.ks, fun d v hv => ownsRow_up (h.rows d v hv) hu, h.apart⟩
theorem kids_snoc (L : List ByteArray) (p d : ByteArray) : kids (L ++ [p]) d = kids L d ++ (if parentG p = d then [p] else []) := by
  simp only [kids, List.filter_append]
  by_cases h : parentG p = d <;> simp [h]
theorem kids_nil {L : List ByteArray} {d : ByteArray} (h : ¬ ∃ q ∈ L, parentG q = d) : kids L d = [] := by
  simp only [kids, List.filter_eq_nil_iff, decide_eq_true_eq]
  exact fun q hq e => h ⟨q, hq, e⟩
/-- The list that is appended to: what the map holds, or nil. -/
theorem Idx.cur {w : World} {B1 ri : Nat} {L : List ByteArray} {im : KV} (h : Idx w B1 ri L im) (d : ByteArray) : w.ownsRow B1 9 1 ((mget im d).getD (.slice none 0 0)) (kids L d).length ((kids L d).map Value.string) := by
  cases e : mget im d with
  | some v => exact h.rows d v e
  | none =>
    have : kids L d = [] := kids_nil (fun hc => mget_none.1 e ((h.ks d).2 hc))
    rw [this]
    exact World.ownsRow_nil _ _ _ _
theorem Idx.step {w w1 w2 w3 : World} {B1 ri : Nat} {L : List ByteArray} {im : KV} (h : Idx w B1 ri L im) (p : ByteArray) (hu : Up w w1) {v' : Value}
    (hown : w2.ownsRow B1 9 1 v' ((kids L (parentG p)).length + 1) ((kids L (parentG p)).map Value.string ++ [.string p])) (hg2 : w1.grownBy w2 ((mget im (parentG p)).getD (.slice none 0 0)).ownBlock)
    (hloc : v'.ownBlock = ((mget im (parentG p)).getD (.slice none 0 0)).ownBlock ∨ v'.ownBlock = some w1.heap.size) (hm2 : MapIs w2 ri im)
    (hg3 : w2.grownBy w3 (some ri)) (hm3 : MapIs w3 ri (mset im (parentG p) v')) : Idx w3 B1 ri (L ++ [p]) (mset im (parentG p) v') := by
  have old : ∀ d v, d ≠ parentG p → mget im d = some v → v.ownBlock = none ∨ v.ownBlock ≠ ((mget im (parentG p)).getD (.slice none 0 0)).ownBlock := by
    intro d v hd hv
    cases hb : v.ownBlock with
    | none => exact .inl rfl
    | some g =>
      right
      intro e
      cases hp : mget im (parentG p) with
      | none => rw [hp] at e; simp [Value.ownBlock] at e
      | some v0 => rw [hp] at e; exact hd (h.apart d _ v v0 g hv hp hb e.symm)
  refine ⟨hm3, fun d => ?_, fun d v hv => ?_, fun d d' v u g hv hu' hvg hug => ?_⟩
  · rw [mem_keys_mset, h.ks]
    constructor
    · rintro (rfl | ⟨q, hq, e⟩)
      · exact ⟨p, by simp, rfl⟩
      · exact ⟨q, by simp [hq], e⟩
    · rintro ⟨q, hq, e⟩
      rcases List.mem_append.1 hq with hq | hq
      · exact .inr ⟨q, hq, e⟩
      · simp at hq; subst hq; exact .inl e.symm
  · rw [mget_mset] at hv
    rw [kids_snoc]
    by_cases hd : parentG p = d
    · rw [if_pos hd] at hv
      cases hv
      subst hd
      have hne : v'.ownBlock ≠ some ri := own_ne_map hown hm2
      have := hown.kept hg3 (.inr hne)
      simpa using this
    · rw [if_neg hd] at hv
      rw [if_neg hd, List.append_nil]
      have h1 := ownsRow_up (h.rows d v hv) hu
      have h2 := h1.kept hg2 (old d v (Ne.symm hd) hv)
      exact h2.kept hg3 (.inr (own_ne_map h2 hm2))
  · rw [mget_mset] at hv hu'
    have key : ∀ d v g, d ≠ parentG p → mget im d = some v → v.ownBlock = some g → v'.ownBlock = some g → False := by
      intro d v g hd hv hvg hg
      rcases hloc with e | e
      · rw [e] at hg
        rcases old d v hd hv with h | h
        · rw [h] at hvg; cases hvg
        · exact h (hvg.trans hg.symm)
      · rw [e] at hg
        have h1 := ((h.rows d v hv).lt g hvg).2
        have h2 := hu.size
        have h3 := Option.some.inj hg
        omega
    by_cases e1 : parentG p = d
    · by_cases e2 : parentG p = d'
      · exact e1.symm.trans e2
      · rw [if_pos e1] at hv
        rw [if_neg e2] at hu'
        cases hv
        exact (key d' u g (Ne.symm e2) hu' hug hvg).elim
    · rw [if_neg e1] at hv
      by_cases e2 : parentG p = d'
      · rw [if_pos e2] at hu'
        cases hu'
        exact (key d v g (Ne.symm e1) hv hvg hug).elim
      · rw [if_neg e2] at hu'
        exact h.apart d d' v u g hv hu' hvg hug

def isRow (o : Option Obj) : Bool := match o with
  | some (.cells ..) => true
  | _ => false
/-- What 'link' may turn: the two maps, and rows from B1 on. -/
structure LRel (ri rm B1 : Nat) (w w' : World) : Prop where
  os : w'.os = w.os
  tape : w'.tape = w.tape
  output : w'.output = w.output
  size : w.heap.size ≤ w'.heap.size
  block : ∀ k, k < w.heap.size → k ≠ ri → k ≠ rm → (k < B1 ∨ isRow w.heap[k]? = false) → w'.heap[k]? = w.heap[k]?
theorem LRel.refl (ri rm B1 : Nat) (w : World) : LRel ri rm B1 w w := ⟨rfl, rfl, rfl, Nat.le_refl _, fun _ _ _ _ _ => rfl⟩
theorem LRel.trans {ri rm B1 : Nat} {a b c : World} (h : LRel ri rm B1 a b) (k : LRel ri rm B1 b c) : LRel ri rm B1 a c :=
  ⟨k.os.trans h.os, k.tape.trans h.tape, k.output.trans h.output, Nat.le_trans h.size k.size, fun i hi h1 h2 h3 => by
    have e := h.block i hi h1 h2 h3
    rw [k.block i (Nat.lt_of_lt_of_le hi h.size) h1 h2 (h3.imp id (fun h => by rw [e]; exact h)), e]⟩
theorem LRel.up {ri rm B1 : Nat} {a b c : World} (h : LRel ri rm B1 a b) (k : Up b c) : LRel ri rm B1 a c :=
  h.trans ⟨k.os, k.tape, k.output, k.size, fun _ hi _ _ _ => k.block hi⟩
theorem LRel.own {ri rm B1 e s n : Nat} {a b c : World} {v : Value} {xs : List Value} (h : LRel ri rm B1 a b) (ho : b.ownsRow B1 e s v n xs) (hg : b.grownBy c v.ownBlock) : LRel ri rm B1 a c :=
  h.trans ⟨hg.os, hg.tape, hg.output, hg.size, fun k hk _ _ h3 => hg.block k hk (fun e => by
    have h1 := (ho.lt k e.symm).1
    rcases h3 with h3 | h3
    · omega
    · rcases ho.2 with ⟨rfl, _⟩ | ⟨g, cap, cur, rfl, _, hgg, _⟩
      · simp [Value.ownBlock] at e
      · simp [Value.ownBlock] at e
        subst e
        rw [hgg] at h3
        cases h3)⟩
theorem LRel.map {ri rm B1 r : Nat} {a b c : World} (h : LRel ri rm B1 a b) (hr : r = ri ∨ r = rm) (hg : b.grownBy c (some r)) : LRel ri rm B1 a c :=
  h.trans ⟨hg.os, hg.tape, hg.output, hg.size, fun k hk h1 h2 _ => hg.block k hk (fun e => by have := Option.some.inj e; omega)⟩

structure LM (w : World) (gi ga gm gb ri rm B1 : Nat) (va vb : Value) (A B : KV) (L : List ByteArray) (im bm : KV) : Prop where
  bi : Row w gi [.map (some ri)] 47
  ba : Row w ga [va] 45
  bo : Row w gm [.map (some rm)] 49
  bb : Row w gb [vb] 45
  ma : MapV w va A
  mb : MapV w vb B
  ix : Idx w B1 ri L im
  mm : MapIs w rm bm
  mt : ∀ k v, mget bm k = some v → v = .bool true
  ne : ri ≠ rm
  na : va ≠ .map (some ri) ∧ va ≠ .map (some rm) ∧ vb ≠ .map (some ri) ∧ vb ≠ .map (some rm)
  lo : gi < B1 ∧ ga < B1 ∧ gm < B1 ∧ gb < B1 ∧ B1 ≤ w.heap.size
theorem MapV.of_ne {w w' : World} {v : Value} {m : KV} {r : Nat} (h : MapV w v m) (hg : w.grownBy w' (some r)) (hne : v ≠ .map (some r)) : MapV w' v m := by
  rcases h with h | ⟨g, rfl, h⟩
  · exact .inl h
  · exact .inr ⟨g, rfl, h.kept hg (fun e => hne (by rw [Option.some.inj e]))⟩
theorem MapV.own {w w' : World} {v u : Value} {m : KV} {B e s n : Nat} {xs : List Value} (h : MapV w v m) (ho : w.ownsRow B e s u n xs) (hg : w.grownBy w' u.ownBlock) : MapV w' v m := by
  rcases h with h | ⟨g, rfl, h⟩
  · exact .inl h
  · exact .inr ⟨g, rfl, h.kept hg (own_ne_map ho h)⟩
theorem LM.up {w w' : World} {gi ga gm gb ri rm B1 : Nat} {va vb : Value} {A B : KV} {L : List ByteArray} {im bm : KV} (h : LM w gi ga gm gb ri rm B1 va vb A B L im bm) (hu : Up w w') : LM w' gi ga gm gb ri rm B1 va vb A B L im bm :=
  ⟨h.bi.up hu, h.ba.up hu, h.bo.up hu, h.bb.up hu, h.ma.up hu, h.mb.up hu, h.ix.up hu, h.mm.up hu, h.mt, h.ne, h.na, h.lo.1, h.lo.2.1, h.lo.2.2.1, h.lo.2.2.2.1, Nat.le_trans h.lo.2.2.2.2 hu.size⟩

theorem map47 : MapTy Try.prog 47 9 40 (.slice none 0 0) := MapTy.of (by kernel_rfl) und9 (by kernel_rfl)
theorem map49 : MapTy Try.prog 49 9 4 (.bool false) := MapTy.of (by kernel_rfl) und9 (by kernel_rfl)
theorem make40 : MakeTy Try.prog 40 9 1 16 [.string ⟨#[]⟩] := MakeTy.of (z := .string ⟨#[]⟩) (by kernel_rfl) (by kernel_rfl) (by kernel_rfl) rfl rfl (by omega)
theorem zero68 : ZeroTy Try.prog 68 zE := ZeroTy.of (z := .agg zE.toArray) (by kernel_rfl) rfl

set_option maxHeartbeats 1000000 in
theorem link_c (w : World) (gi ga gm gb ri rm B1 : Nat) (va vb : Value) (A B : KV) (T D : ByteArray → Prop) (L : List ByteArray) (im bm : KV) (p : ByteArray)
    (hM : LM w gi ga gm gb ri rm B1 va vb A B L im bm) (hI : LInv T D L (keys bm) p) (hT : ∀ k, T k ↔ k ∈ keys A ∨ k ∈ keys B) (hA : EntsOk A) (hB : EntsOk B) (hN : L.length + p.size ≤ 1099511627776) :
    Calls Try.prog 46 #[.string p, .pointer (some ⟨gi, 0, none⟩), .pointer (some ⟨ga, 0, none⟩), .pointer (some ⟨gm, 0, none⟩), .pointer (some ⟨gb, 0, none⟩)] w fun e w' => e = .returned (.tuple #[]) ∧
      ∃ L' im' bm', LM w' gi ga gm gb ri rm B1 va vb A B L' im' bm' ∧ LInv T D L' (keys bm') eB ∧ L'.length ≤ L.length + p.size ∧ LRel ri rm B1 w w' := by
  refine Calls.of_W (args := [.string p, .pointer (some ⟨gi, 0, none⟩), .pointer (some ⟨ga, 0, none⟩), .pointer (some ⟨gm, 0, none⟩), .pointer (some ⟨gb, 0, none⟩)]) Try.func46 rfl rfl rfl ?_
  repeat (first | refine WL.move rfl rfl ?_ | refine WL.assign rfl rfl ?_ | refine W.seq ?_ | refine W.region ?_ | refine WL.nil ?_ | refine Post.next ?_ | refine Post.tail ?_ | refine W.cond_t rfl ?_ | refine W.cond_f rfl ?_ | refine W.block ?_ | refine W.skip ?_ | refine W.exit ?_ | refine W.ret ?_ | refine Post.block_exit ?_ | refine Post.block_other rfl ?_ | refine Post.then_exit ?_ | refine Post.then_ret ?_ | refine Post.block_ret ?_ | refine Post.block_normal ?_ | refine WL.lenS (tyS rfl) rfl rfl ?_ | refine WL.lenStr und9 rfl rfl ?_ | refine WL.fieldAddr (tyF rfl) rfl rfl ?_ | refine WL.not rfl rfl ?_ | refine WL.pick_t rfl rfl rfl ?_ | refine WL.pick_f rfl rfl rfl ?_ | refine WL.want rfl rfl ?_ | refine WL.skip rfl rfl rfl rfl ?_ | refine WL.extract rfl rfl rfl ?_)
  refine W.loop4 (fun (p : ByteArray) (_ : List ByteArray) (_ _ : KV) => [(0, .string p), (1, .pointer (some ⟨gi, 0, none⟩)), (2, .pointer (some ⟨ga, 0, none⟩)), (3, .pointer (some ⟨gm, 0, none⟩)), (4, .pointer (some ⟨gb, 0, none⟩))])
    (fun q K im bm wr => LM wr gi ga gm gb ri rm B1 va vb A B K im bm ∧ LInv T D K (keys bm) q ∧ K.length + q.size ≤ L.length + p.size ∧ LRel ri rm B1 w wr) (fun q _ _ _ => q.size) p L im bm ⟨rfl, rfl, rfl, rfl, rfl, trivial⟩ ⟨hM, hI, Nat.le_refl _, LRel.refl _ _ _ _⟩ ?_
  rintro q K im bm wr ⟨hm, hi, hlen, hrel⟩
  repeat (first | refine WL.move rfl rfl ?_ | refine WL.assign rfl rfl ?_ | refine W.seq ?_ | refine W.region ?_ | refine WL.nil ?_ | refine Post.next ?_ | refine Post.tail ?_ | refine W.cond_t rfl ?_ | refine W.cond_f rfl ?_ | refine W.block ?_ | refine W.skip ?_ | refine W.exit ?_ | refine W.ret ?_ | refine Post.block_exit ?_ | refine Post.block_other rfl ?_ | refine Post.then_exit ?_ | refine Post.then_ret ?_ | refine Post.block_ret ?_ | refine Post.block_normal ?_ | refine WL.lenS (tyS rfl) rfl rfl ?_ | refine WL.lenStr und9 rfl rfl ?_ | refine WL.fieldAddr (tyF rfl) rfl rfl ?_ | refine WL.not rfl rfl ?_ | refine WL.pick_t rfl rfl rfl ?_ | refine WL.pick_f rfl rfl rfl ?_ | refine WL.want rfl rfl ?_ | refine WL.skip rfl rfl rfl rfl ?_ | refine WL.extract rfl rfl rfl ?_)
  refine WL.neqS rfl rfl rfl (fun hq => ?_) (fun hq => ?_)
  · have hq : q ≠ eB := hq
    have hlt := parentG_lt hq
    have hkl : (kids K (parentG q)).length ≤ K.length := List.length_filter_le _ _
    repeat (first | refine WL.move rfl rfl ?_ | refine WL.assign rfl rfl ?_ | refine W.seq ?_ | refine W.region ?_ | refine WL.nil ?_ | refine Post.next ?_ | refine Post.tail ?_ | refine W.cond_t rfl ?_ | refine W.cond_f rfl ?_ | refine W.block ?_ | refine W.skip ?_ | refine W.exit ?_ | refine W.ret ?_ | refine Post.block_exit ?_ | refine Post.block_other rfl ?_ | refine Post.then_exit ?_ | refine Post.then_ret ?_ | refine Post.block_ret ?_ | refine Post.block_normal ?_ | refine WL.lenS (tyS rfl) rfl rfl ?_ | refine WL.lenStr und9 rfl rfl ?_ | refine WL.fieldAddr (tyF rfl) rfl rfl ?_ | refine WL.not rfl rfl ?_ | refine WL.pick_t rfl rfl rfl ?_ | refine WL.pick_f rfl rfl rfl ?_ | refine WL.want rfl rfl ?_ | refine WL.skip rfl rfl rfl rfl ?_ | refine WL.extract rfl rfl rfl ?_)
    refine WL.call _ (fnT rfl) (args1 rfl) (parent_c _ q (by omega)) (by rintro e w' ⟨rfl, _⟩; exact ⟨_, rfl⟩) rfl ?_
    rintro v w1 ⟨hv, rfl⟩
    cases hv
    refine ⟨trivial, ?_⟩
    repeat (first | refine WL.move rfl rfl ?_ | refine WL.assign rfl rfl ?_ | refine W.seq ?_ | refine W.region ?_ | refine WL.nil ?_ | refine Post.next ?_ | refine Post.tail ?_ | refine W.cond_t rfl ?_ | refine W.cond_f rfl ?_ | refine W.block ?_ | refine W.skip ?_ | refine W.exit ?_ | refine W.ret ?_ | refine Post.block_exit ?_ | refine Post.block_other rfl ?_ | refine Post.then_exit ?_ | refine Post.then_ret ?_ | refine Post.block_ret ?_ | refine Post.block_normal ?_ | refine WL.lenS (tyS rfl) rfl rfl ?_ | refine WL.lenStr und9 rfl rfl ?_ | refine WL.fieldAddr (tyF rfl) rfl rfl ?_ | refine WL.not rfl rfl ?_ | refine WL.pick_t rfl rfl rfl ?_ | refine WL.pick_f rfl rfl rfl ?_ | refine WL.want rfl rfl ?_ | refine WL.skip rfl rfl rfl rfl ?_ | refine WL.extract rfl rfl rfl ?_)
    refine W.region_f [(0, true), (1, true), (2, true), (3, true), (4, true), (5, true), (6, false), (7, false)] [8] (fun w' => Row w' gi [.map (some ri)] 47 ∧ MapIs w' ri im) mixed (by kernel_rfl) ⟨hm.bi.up (Up.drew _), hm.ix.map.up (Up.drew _)⟩ ?_
    refine WL.loadC (o' := 0) (tyP rfl) rfl (fun w' hw => hw.1.cell rfl) rfl rfl ?_
    repeat (first | refine WL.move rfl rfl ?_ | refine WL.assign rfl rfl ?_ | refine W.seq ?_ | refine W.region ?_ | refine WL.nil ?_ | refine Post.next ?_ | refine Post.tail ?_ | refine W.cond_t rfl ?_ | refine W.cond_f rfl ?_ | refine W.block ?_ | refine W.skip ?_ | refine W.exit ?_ | refine W.ret ?_ | refine Post.block_exit ?_ | refine Post.block_other rfl ?_ | refine Post.then_exit ?_ | refine Post.then_ret ?_ | refine Post.block_ret ?_ | refine Post.block_normal ?_ | refine WL.lenS (tyS rfl) rfl rfl ?_ | refine WL.lenStr und9 rfl rfl ?_ | refine WL.fieldAddr (tyF rfl) rfl rfl ?_ | refine WL.not rfl rfl ?_ | refine WL.pick_t rfl rfl rfl ?_ | refine WL.pick_f rfl rfl rfl ?_ | refine WL.want rfl rfl ?_ | refine WL.skip rfl rfl rfl rfl ?_ | refine WL.extract rfl rfl rfl ?_)
    refine WL.loadC (o' := 0) (tyP rfl) rfl (fun w' hw => hw.1.cell rfl) rfl rfl ?_
    repeat (first | refine WL.move rfl rfl ?_ | refine WL.assign rfl rfl ?_ | refine W.seq ?_ | refine W.region ?_ | refine WL.nil ?_ | refine Post.next ?_ | refine Post.tail ?_ | refine W.cond_t rfl ?_ | refine W.cond_f rfl ?_ | refine W.block ?_ | refine W.skip ?_ | refine W.exit ?_ | refine W.ret ?_ | refine Post.block_exit ?_ | refine Post.block_other rfl ?_ | refine Post.then_exit ?_ | refine Post.then_ret ?_ | refine Post.block_ret ?_ | refine Post.block_normal ?_ | refine WL.lenS (tyS rfl) rfl rfl ?_ | refine WL.lenStr und9 rfl rfl ?_ | refine WL.fieldAddr (tyF rfl) rfl rfl ?_ | refine WL.not rfl rfl ?_ | refine WL.pick_t rfl rfl rfl ?_ | refine WL.pick_f rfl rfl rfl ?_ | refine WL.want rfl rfl ?_ | refine WL.skip rfl rfl rfl rfl ?_ | refine WL.extract rfl rfl rfl ?_)
    refine WL.lookC (m := im) map47 rfl rfl (fun w' hw => .inr ⟨ri, rfl, hw.2⟩) rfl ?_
    repeat (first | refine WL.move rfl rfl ?_ | refine WL.assign rfl rfl ?_ | refine W.seq ?_ | refine W.region ?_ | refine WL.nil ?_ | refine Post.next ?_ | refine Post.tail ?_ | refine W.cond_t rfl ?_ | refine W.cond_f rfl ?_ | refine W.block ?_ | refine W.skip ?_ | refine W.exit ?_ | refine W.ret ?_ | refine Post.block_exit ?_ | refine Post.block_other rfl ?_ | refine Post.then_exit ?_ | refine Post.then_ret ?_ | refine Post.block_ret ?_ | refine Post.block_normal ?_ | refine WL.lenS (tyS rfl) rfl rfl ?_ | refine WL.lenStr und9 rfl rfl ?_ | refine WL.fieldAddr (tyF rfl) rfl rfl ?_ | refine WL.not rfl rfl ?_ | refine WL.pick_t rfl rfl rfl ?_ | refine WL.pick_f rfl rfl rfl ?_ | refine WL.want rfl rfl ?_ | refine WL.skip rfl rfl rfl rfl ?_ | refine WL.extract rfl rfl rfl ?_)
    refine WL.buildSlice1 make40 rfl rfl rfl ?_
    intro w2 hg2 hz2 hr2
    have hu2 : Up wr w2 := (Up.drew wr).trans (Up.grown hg2)
    refine ⟨⟨hm.bi.up hu2, hm.ix.map.up hu2⟩, ?_⟩
    have hcur := ownsRow_up (hm.ix.cur (parentG q)) hu2
    refine WL.appendL make40 rfl rfl hcur hr2 rfl (by simp [Value.oneCell']) (by omega) (by omega) (by have := hm.lo.2.2.2.2; have := hu2.size; omega) rfl ?_
    intro v' w3 hown3 hg3 hloc3 hsome3
    have hbi3 : Row w3 gi [.map (some ri)] 47 := (hm.bi.up hu2).kept hg3 (fun e => by have := (hcur.lt gi e).1; have := hm.lo.1; omega)
    have hix3 : MapIs w3 ri im := (hm.ix.map.up hu2).kept hg3 (own_ne_map hcur (hm.ix.map.up hu2))
    refine ⟨⟨hbi3, hix3⟩, ?_⟩
    refine WL.nil ?_
    refine Post.fin ?_
    refine WL.mapSet map47 rfl rfl rfl hix3 ?_
    intro w4 hg4 hz4 hm4
    refine ⟨trivial, ?_⟩
    have hix4 : Idx w4 B1 ri (K ++ [q]) (mset im (parentG q) v') := hm.ix.step q hu2 hown3 hg3 hloc3 hix3 hg4 hm4
    have hrel4 : LRel ri rm B1 w w4 := ((hrel.up hu2).own hcur hg3).map (.inl rfl) hg4
    have keep : ∀ g cs t, Row wr g cs t → g < B1 → Row w4 g cs t := fun g cs t h hlo => by
      refine ((h.up hu2).kept hg3 (fun e => by have := (hcur.lt g e).1; omega)).kept hg4 (fun e => ?_)
      have hgr := Option.some.inj e
      subst hgr
      obtain ⟨bs, clock, hmm⟩ := hm.ix.map
      unfold Row at h
      rw [hmm.at_] at h
      cases h
    have hm4' : LM w4 gi ga gm gb ri rm B1 va vb A B (K ++ [q]) (mset im (parentG q) v') bm := by
      refine ⟨keep _ _ _ hm.bi hm.lo.1, keep _ _ _ hm.ba hm.lo.2.1, keep _ _ _ hm.bo hm.lo.2.2.1, keep _ _ _ hm.bb hm.lo.2.2.2.1, ((hm.ma.up hu2).own hcur hg3).of_ne hg4 hm.na.1, ((hm.mb.up hu2).own hcur hg3).of_ne hg4 hm.na.2.2.1, hix4, ?_, hm.mt, hm.ne, hm.na, hm.lo.1, hm.lo.2.1, hm.lo.2.2.1, hm.lo.2.2.2.1, ?_⟩
      · exact ((hm.mm.up hu2).kept hg3 (own_ne_map hcur (hm.mm.up hu2))).kept hg4 (fun e => hm.ne (Option.some.inj e))
      · have h1 := hm.lo.2.2.2.2; have h2 := hu2.size; have h3 := hg3.size; have h4 := hg4.size; omega
    clear hix4 keep hix3 hbi3 hown3 hloc3 hsome3 hcur hm
    have hm := hm4'
    clear hm4'
    repeat (first | refine WL.move rfl rfl ?_ | refine WL.assign rfl rfl ?_ | refine W.seq ?_ | refine W.region ?_ | refine WL.nil ?_ | refine Post.next ?_ | refine Post.tail ?_ | refine W.cond_t rfl ?_ | refine W.cond_f rfl ?_ | refine W.block ?_ | refine W.skip ?_ | refine W.exit ?_ | refine W.ret ?_ | refine Post.block_exit ?_ | refine Post.block_other rfl ?_ | refine Post.then_exit ?_ | refine Post.then_ret ?_ | refine Post.block_ret ?_ | refine Post.block_normal ?_ | refine WL.lenS (tyS rfl) rfl rfl ?_ | refine WL.lenStr und9 rfl rfl ?_ | refine WL.fieldAddr (tyF rfl) rfl rfl ?_ | refine WL.not rfl rfl ?_ | refine WL.pick_t rfl rfl rfl ?_ | refine WL.pick_f rfl rfl rfl ?_ | refine WL.want rfl rfl ?_ | refine WL.skip rfl rfl rfl rfl ?_ | refine WL.extract rfl rfl rfl ?_)
    -- is it a path of a?
    refine WL.load (o' := 0) (tyP rfl) rfl (fun _ e => e) (hm.ba.cell rfl) rfl rfl ?_
    repeat (first | refine WL.move rfl rfl ?_ | refine WL.assign rfl rfl ?_ | refine W.seq ?_ | refine W.region ?_ | refine WL.nil ?_ | refine Post.next ?_ | refine Post.tail ?_ | refine W.cond_t rfl ?_ | refine W.cond_f rfl ?_ | refine W.block ?_ | refine W.skip ?_ | refine W.exit ?_ | refine W.ret ?_ | refine Post.block_exit ?_ | refine Post.block_other rfl ?_ | refine Post.then_exit ?_ | refine Post.then_ret ?_ | refine Post.block_ret ?_ | refine Post.block_normal ?_ | refine WL.lenS (tyS rfl) rfl rfl ?_ | refine WL.lenStr und9 rfl rfl ?_ | refine WL.fieldAddr (tyF rfl) rfl rfl ?_ | refine WL.not rfl rfl ?_ | refine WL.pick_t rfl rfl rfl ?_ | refine WL.pick_f rfl rfl rfl ?_ | refine WL.want rfl rfl ?_ | refine WL.skip rfl rfl rfl rfl ?_ | refine WL.extract rfl rfl rfl ?_)
    refine WL.look2 map45 rfl rfl (fun _ e => e) hm.ma rfl ?_
    repeat (first | refine WL.move rfl rfl ?_ | refine WL.assign rfl rfl ?_ | refine W.seq ?_ | refine W.region ?_ | refine WL.nil ?_ | refine Post.next ?_ | refine Post.tail ?_ | refine W.cond_t rfl ?_ | refine W.cond_f rfl ?_ | refine W.block ?_ | refine W.skip ?_ | refine W.exit ?_ | refine W.ret ?_ | refine Post.block_exit ?_ | refine Post.block_other rfl ?_ | refine Post.then_exit ?_ | refine Post.then_ret ?_ | refine Post.block_ret ?_ | refine Post.block_normal ?_ | refine WL.lenS (tyS rfl) rfl rfl ?_ | refine WL.lenStr und9 rfl rfl ?_ | refine WL.fieldAddr (tyF rfl) rfl rfl ?_ | refine WL.not rfl rfl ?_ | refine WL.pick_t rfl rfl rfl ?_ | refine WL.pick_f rfl rfl rfl ?_ | refine WL.want rfl rfl ?_ | refine WL.skip rfl rfl rfl rfl ?_ | refine WL.extract rfl rfl rfl ?_)
    refine WL.alloc zero68 rfl ?_
    intro w5 hg5 hz5 hr5
    refine ⟨trivial, ?_⟩
    obtain ⟨vs, hvs, hvl, hv1⟩ := hA.get (parentG q)
    refine WL.storeAgg (vs := vs) (o' := 0) (tyA rfl) rfl (congrArg some hvs) hvl hv1 hr5 rfl (by rw [hvl]; exact Nat.le_refl _) ?_
    intro w6 hg6 hz6 hr6
    refine ⟨trivial, ?_⟩
    have hu6 : Up w4 w6 := (Up.grown hg5).step hg6 (by intro j hj; cases hj; exact Nat.le_refl _)
    have hm := hm.up hu6
    have hrel6 := hrel4.up hu6
    repeat (first | refine WL.move rfl rfl ?_ | refine WL.assign rfl rfl ?_ | refine W.seq ?_ | refine W.region ?_ | refine WL.nil ?_ | refine Post.next ?_ | refine Post.tail ?_ | refine W.cond_t rfl ?_ | refine W.cond_f rfl ?_ | refine W.block ?_ | refine W.skip ?_ | refine W.exit ?_ | refine W.ret ?_ | refine Post.block_exit ?_ | refine Post.block_other rfl ?_ | refine Post.then_exit ?_ | refine Post.then_ret ?_ | refine Post.block_ret ?_ | refine Post.block_normal ?_ | refine WL.lenS (tyS rfl) rfl rfl ?_ | refine WL.lenStr und9 rfl rfl ?_ | refine WL.fieldAddr (tyF rfl) rfl rfl ?_ | refine WL.not rfl rfl ?_ | refine WL.pick_t rfl rfl rfl ?_ | refine WL.pick_f rfl rfl rfl ?_ | refine WL.want rfl rfl ?_ | refine WL.skip rfl rfl rfl rfl ?_ | refine WL.extract rfl rfl rfl ?_)
    cases ha : mget A (parentG q) with
    | some ea =>
      have hin : T (parentG q) := (hT _).2 (.inl (mget_some.1 ⟨_, ha⟩))
      repeat (first | refine WL.move rfl rfl ?_ | refine WL.assign rfl rfl ?_ | refine W.seq ?_ | refine W.region ?_ | refine WL.nil ?_ | refine Post.next ?_ | refine Post.tail ?_ | refine W.cond_t rfl ?_ | refine W.cond_f rfl ?_ | refine W.block ?_ | refine W.skip ?_ | refine W.exit ?_ | refine W.ret ?_ | refine Post.block_exit ?_ | refine Post.block_other rfl ?_ | refine Post.then_exit ?_ | refine Post.then_ret ?_ | refine Post.block_ret ?_ | refine Post.block_normal ?_ | refine WL.lenS (tyS rfl) rfl rfl ?_ | refine WL.lenStr und9 rfl rfl ?_ | refine WL.fieldAddr (tyF rfl) rfl rfl ?_ | refine WL.not rfl rfl ?_ | refine WL.pick_t rfl rfl rfl ?_ | refine WL.pick_f rfl rfl rfl ?_ | refine WL.want rfl rfl ?_ | refine WL.skip rfl rfl rfl rfl ?_ | refine WL.extract rfl rfl rfl ?_)
      exact Post.ret0 rfl ⟨rfl, _, _, _, hm, hi.stop hq (.inl hin), by simp; omega, hrel6⟩
    | none =>
      have hna : parentG q ∉ keys A := mget_none.1 ha
      repeat (first | refine WL.move rfl rfl ?_ | refine WL.assign rfl rfl ?_ | refine W.seq ?_ | refine W.region ?_ | refine WL.nil ?_ | refine Post.next ?_ | refine Post.tail ?_ | refine W.cond_t rfl ?_ | refine W.cond_f rfl ?_ | refine W.block ?_ | refine W.skip ?_ | refine W.exit ?_ | refine W.ret ?_ | refine Post.block_exit ?_ | refine Post.block_other rfl ?_ | refine Post.then_exit ?_ | refine Post.then_ret ?_ | refine Post.block_ret ?_ | refine Post.block_normal ?_ | refine WL.lenS (tyS rfl) rfl rfl ?_ | refine WL.lenStr und9 rfl rfl ?_ | refine WL.fieldAddr (tyF rfl) rfl rfl ?_ | refine WL.not rfl rfl ?_ | refine WL.pick_t rfl rfl rfl ?_ | refine WL.pick_f rfl rfl rfl ?_ | refine WL.want rfl rfl ?_ | refine WL.skip rfl rfl rfl rfl ?_ | refine WL.extract rfl rfl rfl ?_)
      refine WL.load (o' := 0) (tyP rfl) rfl (fun _ e => e) (hm.bo.cell rfl) rfl rfl ?_
      repeat (first | refine WL.move rfl rfl ?_ | refine WL.assign rfl rfl ?_ | refine W.seq ?_ | refine W.region ?_ | refine WL.nil ?_ | refine Post.next ?_ | refine Post.tail ?_ | refine W.cond_t rfl ?_ | refine W.cond_f rfl ?_ | refine W.block ?_ | refine W.skip ?_ | refine W.exit ?_ | refine W.ret ?_ | refine Post.block_exit ?_ | refine Post.block_other rfl ?_ | refine Post.then_exit ?_ | refine Post.then_ret ?_ | refine Post.block_ret ?_ | refine Post.block_normal ?_ | refine WL.lenS (tyS rfl) rfl rfl ?_ | refine WL.lenStr und9 rfl rfl ?_ | refine WL.fieldAddr (tyF rfl) rfl rfl ?_ | refine WL.not rfl rfl ?_ | refine WL.pick_t rfl rfl rfl ?_ | refine WL.pick_f rfl rfl rfl ?_ | refine WL.want rfl rfl ?_ | refine WL.skip rfl rfl rfl rfl ?_ | refine WL.extract rfl rfl rfl ?_)
      refine WL.look1 map49 rfl rfl (fun _ e => e) (.inr ⟨_, rfl, hm.mm⟩) rfl ?_
      cases hb : mget bm (parentG q) with
      | some x =>
        have hx := hm.mt _ _ hb
        subst hx
        repeat (first | refine WL.move rfl rfl ?_ | refine WL.assign rfl rfl ?_ | refine W.seq ?_ | refine W.region ?_ | refine WL.nil ?_ | refine Post.next ?_ | refine Post.tail ?_ | refine W.cond_t rfl ?_ | refine W.cond_f rfl ?_ | refine W.block ?_ | refine W.skip ?_ | refine W.exit ?_ | refine W.ret ?_ | refine Post.block_exit ?_ | refine Post.block_other rfl ?_ | refine Post.then_exit ?_ | refine Post.then_ret ?_ | refine Post.block_ret ?_ | refine Post.block_normal ?_ | refine WL.lenS (tyS rfl) rfl rfl ?_ | refine WL.lenStr und9 rfl rfl ?_ | refine WL.fieldAddr (tyF rfl) rfl rfl ?_ | refine WL.not rfl rfl ?_ | refine WL.pick_t rfl rfl rfl ?_ | refine WL.pick_f rfl rfl rfl ?_ | refine WL.want rfl rfl ?_ | refine WL.skip rfl rfl rfl rfl ?_ | refine WL.extract rfl rfl rfl ?_)
        exact Post.ret0 rfl ⟨rfl, _, _, _, hm, hi.stop hq (.inr (mget_some.1 ⟨_, hb⟩)), by simp; omega, hrel6⟩
      | none =>
        have hnm : parentG q ∉ keys bm := mget_none.1 hb
        repeat (first | refine WL.move rfl rfl ?_ | refine WL.assign rfl rfl ?_ | refine W.seq ?_ | refine W.region ?_ | refine WL.nil ?_ | refine Post.next ?_ | refine Post.tail ?_ | refine W.cond_t rfl ?_ | refine W.cond_f rfl ?_ | refine W.block ?_ | refine W.skip ?_ | refine W.exit ?_ | refine W.ret ?_ | refine Post.block_exit ?_ | refine Post.block_other rfl ?_ | refine Post.then_exit ?_ | refine Post.then_ret ?_ | refine Post.block_ret ?_ | refine Post.block_normal ?_ | refine WL.lenS (tyS rfl) rfl rfl ?_ | refine WL.lenStr und9 rfl rfl ?_ | refine WL.fieldAddr (tyF rfl) rfl rfl ?_ | refine WL.not rfl rfl ?_ | refine WL.pick_t rfl rfl rfl ?_ | refine WL.pick_f rfl rfl rfl ?_ | refine WL.want rfl rfl ?_ | refine WL.skip rfl rfl rfl rfl ?_ | refine WL.extract rfl rfl rfl ?_)
        refine WL.load (o' := 0) (tyP rfl) rfl (fun _ e => e) (hm.bb.cell rfl) rfl rfl ?_
        repeat (first | refine WL.move rfl rfl ?_ | refine WL.assign rfl rfl ?_ | refine W.seq ?_ | refine W.region ?_ | refine WL.nil ?_ | refine Post.next ?_ | refine Post.tail ?_ | refine W.cond_t rfl ?_ | refine W.cond_f rfl ?_ | refine W.block ?_ | refine W.skip ?_ | refine W.exit ?_ | refine W.ret ?_ | refine Post.block_exit ?_ | refine Post.block_other rfl ?_ | refine Post.then_exit ?_ | refine Post.then_ret ?_ | refine Post.block_ret ?_ | refine Post.block_normal ?_ | refine WL.lenS (tyS rfl) rfl rfl ?_ | refine WL.lenStr und9 rfl rfl ?_ | refine WL.fieldAddr (tyF rfl) rfl rfl ?_ | refine WL.not rfl rfl ?_ | refine WL.pick_t rfl rfl rfl ?_ | refine WL.pick_f rfl rfl rfl ?_ | refine WL.want rfl rfl ?_ | refine WL.skip rfl rfl rfl rfl ?_ | refine WL.extract rfl rfl rfl ?_)
        refine WL.look2 map45 rfl rfl (fun _ e => e) hm.mb rfl ?_
        repeat (first | refine WL.move rfl rfl ?_ | refine WL.assign rfl rfl ?_ | refine W.seq ?_ | refine W.region ?_ | refine WL.nil ?_ | refine Post.next ?_ | refine Post.tail ?_ | refine W.cond_t rfl ?_ | refine W.cond_f rfl ?_ | refine W.block ?_ | refine W.skip ?_ | refine W.exit ?_ | refine W.ret ?_ | refine Post.block_exit ?_ | refine Post.block_other rfl ?_ | refine Post.then_exit ?_ | refine Post.then_ret ?_ | refine Post.block_ret ?_ | refine Post.block_normal ?_ | refine WL.lenS (tyS rfl) rfl rfl ?_ | refine WL.lenStr und9 rfl rfl ?_ | refine WL.fieldAddr (tyF rfl) rfl rfl ?_ | refine WL.not rfl rfl ?_ | refine WL.pick_t rfl rfl rfl ?_ | refine WL.pick_f rfl rfl rfl ?_ | refine WL.want rfl rfl ?_ | refine WL.skip rfl rfl rfl rfl ?_ | refine WL.extract rfl rfl rfl ?_)
        refine WL.alloc zero68 rfl ?_
        intro w7 hg7 hz7 hr7
        refine ⟨trivial, ?_⟩
        obtain ⟨us, hus, hul, hu1⟩ := hB.get (parentG q)
        refine WL.storeAgg (vs := us) (o' := 0) (tyA rfl) rfl (congrArg some hus) hul hu1 hr7 rfl (by rw [hul]; exact Nat.le_refl _) ?_
        intro w8 hg8 hz8 hr8
        refine ⟨trivial, ?_⟩
        have hu8 : Up w6 w8 := (Up.grown hg7).step hg8 (by intro j hj; cases hj; exact Nat.le_refl _)
        have hm := hm.up hu8
        have hrel8 := hrel6.up hu8
        repeat (first | refine WL.move rfl rfl ?_ | refine WL.assign rfl rfl ?_ | refine W.seq ?_ | refine W.region ?_ | refine WL.nil ?_ | refine Post.next ?_ | refine Post.tail ?_ | refine W.cond_t rfl ?_ | refine W.cond_f rfl ?_ | refine W.block ?_ | refine W.skip ?_ | refine W.exit ?_ | refine W.ret ?_ | refine Post.block_exit ?_ | refine Post.block_other rfl ?_ | refine Post.then_exit ?_ | refine Post.then_ret ?_ | refine Post.block_ret ?_ | refine Post.block_normal ?_ | refine WL.lenS (tyS rfl) rfl rfl ?_ | refine WL.lenStr und9 rfl rfl ?_ | refine WL.fieldAddr (tyF rfl) rfl rfl ?_ | refine WL.not rfl rfl ?_ | refine WL.pick_t rfl rfl rfl ?_ | refine WL.pick_f rfl rfl rfl ?_ | refine WL.want rfl rfl ?_ | refine WL.skip rfl rfl rfl rfl ?_ | refine WL.extract rfl rfl rfl ?_)
        cases hbb : mget B (parentG q) with
        | some eb =>
          have hin : T (parentG q) := (hT _).2 (.inr (mget_some.1 ⟨_, hbb⟩))
          repeat (first | refine WL.move rfl rfl ?_ | refine WL.assign rfl rfl ?_ | refine W.seq ?_ | refine W.region ?_ | refine WL.nil ?_ | refine Post.next ?_ | refine Post.tail ?_ | refine W.cond_t rfl ?_ | refine W.cond_f rfl ?_ | refine W.block ?_ | refine W.skip ?_ | refine W.exit ?_ | refine W.ret ?_ | refine Post.block_exit ?_ | refine Post.block_other rfl ?_ | refine Post.then_exit ?_ | refine Post.then_ret ?_ | refine Post.block_ret ?_ | refine Post.block_normal ?_ | refine WL.lenS (tyS rfl) rfl rfl ?_ | refine WL.lenStr und9 rfl rfl ?_ | refine WL.fieldAddr (tyF rfl) rfl rfl ?_ | refine WL.not rfl rfl ?_ | refine WL.pick_t rfl rfl rfl ?_ | refine WL.pick_f rfl rfl rfl ?_ | refine WL.want rfl rfl ?_ | refine WL.skip rfl rfl rfl rfl ?_ | refine WL.extract rfl rfl rfl ?_)
          exact Post.ret0 rfl ⟨rfl, _, _, _, hm, hi.stop hq (.inl hin), by simp; omega, hrel8⟩
        | none =>
          have hnb : parentG q ∉ keys B := mget_none.1 hbb
          have hnT : ¬ T (parentG q) := fun h => ((hT _).1 h).elim hna hnb
          repeat (first | refine WL.move rfl rfl ?_ | refine WL.assign rfl rfl ?_ | refine W.seq ?_ | refine W.region ?_ | refine WL.nil ?_ | refine Post.next ?_ | refine Post.tail ?_ | refine W.cond_t rfl ?_ | refine W.cond_f rfl ?_ | refine W.block ?_ | refine W.skip ?_ | refine W.exit ?_ | refine W.ret ?_ | refine Post.block_exit ?_ | refine Post.block_other rfl ?_ | refine Post.then_exit ?_ | refine Post.then_ret ?_ | refine Post.block_ret ?_ | refine Post.block_normal ?_ | refine WL.lenS (tyS rfl) rfl rfl ?_ | refine WL.lenStr und9 rfl rfl ?_ | refine WL.fieldAddr (tyF rfl) rfl rfl ?_ | refine WL.not rfl rfl ?_ | refine WL.pick_t rfl rfl rfl ?_ | refine WL.pick_f rfl rfl rfl ?_ | refine WL.want rfl rfl ?_ | refine WL.skip rfl rfl rfl rfl ?_ | refine WL.extract rfl rfl rfl ?_)
          refine WL.load (o' := 0) (tyP rfl) rfl (fun _ e => e) (hm.bo.cell rfl) rfl rfl ?_
          repeat (first | refine WL.move rfl rfl ?_ | refine WL.assign rfl rfl ?_ | refine W.seq ?_ | refine W.region ?_ | refine WL.nil ?_ | refine Post.next ?_ | refine Post.tail ?_ | refine W.cond_t rfl ?_ | refine W.cond_f rfl ?_ | refine W.block ?_ | refine W.skip ?_ | refine W.exit ?_ | refine W.ret ?_ | refine Post.block_exit ?_ | refine Post.block_other rfl ?_ | refine Post.then_exit ?_ | refine Post.then_ret ?_ | refine Post.block_ret ?_ | refine Post.block_normal ?_ | refine WL.lenS (tyS rfl) rfl rfl ?_ | refine WL.lenStr und9 rfl rfl ?_ | refine WL.fieldAddr (tyF rfl) rfl rfl ?_ | refine WL.not rfl rfl ?_ | refine WL.pick_t rfl rfl rfl ?_ | refine WL.pick_f rfl rfl rfl ?_ | refine WL.want rfl rfl ?_ | refine WL.skip rfl rfl rfl rfl ?_ | refine WL.extract rfl rfl rfl ?_)
          refine WL.mapSet map49 rfl rfl rfl hm.mm ?_
          intro w9 hg9 hz9 hm9
          refine ⟨trivial, ?_⟩
          have hrel9 := hrel8.map (.inr rfl) hg9
          have keep9 : ∀ g cs t, Row w8 g cs t → Row w9 g cs t := fun g cs t h => h.kept hg9 (fun e => by
            have hgr := Option.some.inj e
            subst hgr
            obtain ⟨bs, clock, hmm⟩ := hm.mm
            unfold Row at h
            rw [hmm.at_] at h
            cases h)
          have hix9 : Idx w9 B1 ri (K ++ [q]) (mset im (parentG q) v') :=
            ⟨hm.ix.map.kept hg9 (fun e => hm.ne (Option.some.inj e).symm), hm.ix.ks, fun d v hv => (hm.ix.rows d v hv).kept hg9 (.inr (own_ne_map (hm.ix.rows d v hv) hm.mm)), hm.ix.apart⟩
          have hm9' : LM w9 gi ga gm gb ri rm B1 va vb A B (K ++ [q]) (mset im (parentG q) v') (mset bm (parentG q) (.bool true)) := by
            refine ⟨keep9 _ _ _ hm.bi, keep9 _ _ _ hm.ba, keep9 _ _ _ hm.bo, keep9 _ _ _ hm.bb, hm.ma.of_ne hg9 hm.na.2.1, hm.mb.of_ne hg9 hm.na.2.2.2, hix9, hm9, ?_, hm.ne, hm.na, hm.lo.1, hm.lo.2.1, hm.lo.2.2.1, hm.lo.2.2.2.1, by rw [hz9]; exact hm.lo.2.2.2.2⟩
            intro k v hv
            rw [mget_mset] at hv
            split at hv
            · cases hv; rfl
            · exact hm.mt k v hv
          repeat (first | refine WL.move rfl rfl ?_ | refine WL.assign rfl rfl ?_ | refine W.seq ?_ | refine W.region ?_ | refine WL.nil ?_ | refine Post.next ?_ | refine Post.tail ?_ | refine W.cond_t rfl ?_ | refine W.cond_f rfl ?_ | refine W.block ?_ | refine W.skip ?_ | refine W.exit ?_ | refine W.ret ?_ | refine Post.block_exit ?_ | refine Post.block_other rfl ?_ | refine Post.then_exit ?_ | refine Post.then_ret ?_ | refine Post.block_ret ?_ | refine Post.block_normal ?_ | refine WL.lenS (tyS rfl) rfl rfl ?_ | refine WL.lenStr und9 rfl rfl ?_ | refine WL.fieldAddr (tyF rfl) rfl rfl ?_ | refine WL.not rfl rfl ?_ | refine WL.pick_t rfl rfl rfl ?_ | refine WL.pick_f rfl rfl rfl ?_ | refine WL.want rfl rfl ?_ | refine WL.skip rfl rfl rfl rfl ?_ | refine WL.extract rfl rfl rfl ?_)
          refine Post.round4 (parentG q) (K ++ [q]) _ _ ⟨rfl, rfl, rfl, rfl, rfl, trivial⟩ ⟨hm9', hi.step hq hnT hnm _ (fun x => mem_keys_mset _ x), by simp; omega, hrel9⟩ hlt
  · have hq : q = eB := hq
    subst hq
    repeat (first | refine WL.move rfl rfl ?_ | refine WL.assign rfl rfl ?_ | refine W.seq ?_ | refine W.region ?_ | refine WL.nil ?_ | refine Post.next ?_ | refine Post.tail ?_ | refine W.cond_t rfl ?_ | refine W.cond_f rfl ?_ | refine W.block ?_ | refine W.skip ?_ | refine W.exit ?_ | refine W.ret ?_ | refine Post.block_exit ?_ | refine Post.block_other rfl ?_ | refine Post.then_exit ?_ | refine Post.then_ret ?_ | refine Post.block_ret ?_ | refine Post.block_normal ?_ | refine WL.lenS (tyS rfl) rfl rfl ?_ | refine WL.lenStr und9 rfl rfl ?_ | refine WL.fieldAddr (tyF rfl) rfl rfl ?_ | refine WL.not rfl rfl ?_ | refine WL.pick_t rfl rfl rfl ?_ | refine WL.pick_f rfl rfl rfl ?_ | refine WL.want rfl rfl ?_ | refine WL.skip rfl rfl rfl rfl ?_ | refine WL.extract rfl rfl rfl ?_)
    exact Post.end0 rfl ⟨rfl, _, _, _, hm, hi, by omega, hrel⟩
end Go.Lx
