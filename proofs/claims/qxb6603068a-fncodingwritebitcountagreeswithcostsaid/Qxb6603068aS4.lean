import Derived.Test.Qxb6603068aS3
namespace Go.Lx
open Go.Proofs Go.RowKit

theorem own_ne_row {w : World} {B e k n g t : Nat} {v : Value} {xs cs : List Value} (h : w.ownsRow B e k v n xs) (hr : Row w g cs t) (hne : t ≠ e) : v.ownBlock ≠ some g := by
  intro eq
  rcases h.2 with ⟨rfl, _⟩ | ⟨g', cap, cur, rfl, _, hg, _⟩
  · simp [Value.ownBlock] at eq
  · simp [Value.ownBlock] at eq
    subst eq
    unfold Row at hr
    rw [hr] at hg
    cases hg
    exact hne rfl
theorem OwnStep.new {w wr wc : World} {v u : Value} {g : Nat} (h : OwnStep w v wr u) (hg : wr.grownBy wc (some g)) (hge : w.heap.size ≤ g) : OwnStep w v wc u := by
  refine ⟨⟨hg.os.trans h.g.os, hg.tape.trans h.g.tape, hg.output.trans h.g.output, Nat.le_trans h.g.size hg.size, fun i hi hne => ?_⟩, h.l⟩
  rw [hg.block i (Nat.lt_of_lt_of_le hi h.g.size) (fun e => by have := Option.some.inj e; omega), h.g.block i hi hne]
theorem OwnStep.none {w wr wc : World} {v u : Value} (h : OwnStep w v wr u) (hg : wr.grownBy wc none) : OwnStep w v wc u := by
  refine ⟨⟨hg.os.trans h.g.os, hg.tape.trans h.g.tape, hg.output.trans h.g.output, Nat.le_trans h.g.size hg.size, fun i hi hne => ?_⟩, h.l⟩
  rw [hg.block i (Nat.lt_of_lt_of_le hi h.g.size) (by simp), h.g.block i hi hne]
def bytesC (L : List Int) : List Value := L.map (Value.int .u8)
theorem spl_set (L : List Int) (k : Nat) (x : Int) (h : k < L.length) : spl (bytesC L) k [.int .u8 x] = bytesC (L.set k x) := by
  unfold spl bytesC
  rw [List.set_eq_take_append_cons_drop, if_pos h]
  simp
def SeqV (w : World) (sv : Value) (sq : Nat → Int) : Prop := ∃ bs os, sv = .pointer (some ⟨bs, os, none⟩) ∧ ∀ c : Nat, c < 256 → w.cell? ⟨bs, os + c, none⟩ = some (.int .u8 (sq c))
theorem bytesC_get {L : List Int} {i : Nat} (h : i < L.length) : (bytesC L)[i]? = some (.int .u8 L[i]) := by
  unfold bytesC
  rw [List.getElem?_map, List.getElem?_eq_getElem h]; rfl
theorem outL_mem : ∀ (L : List Int) (s x : Int), s ∈ L → (x ∈ L ↔ x = s ∨ x ∈ outL s L)
  | [], s, x, h => by simp at h
  | y :: r, s, x, h => by
    by_cases e : y = s
    · subst e; simp [outL]
    · have hs : s ∈ r := by
        rcases List.mem_cons.1 h with h | h
        · exact absurd h.symm e
        · exact h
      have ih := outL_mem r s x hs
      simp only [outL, if_neg e, List.mem_cons, ih]
      constructor
      · rintro (h | h | h)
        · exact .inr (.inl h)
        · exact .inl h
        · exact .inr (.inr h)
      · rintro (h | h | h)
        · exact .inr (.inl h)
        · exact .inl h
        · exact .inr (.inr h)
theorem outL_len : ∀ (L : List Int) (s : Int), s ∈ L → (outL s L).length + 1 = L.length
  | [], s, h => by simp at h
  | y :: r, s, h => by
    by_cases e : y = s
    · subst e; simp [outL]
    · have hs : s ∈ r := by
        rcases List.mem_cons.1 h with h | h
        · exact absurd h.symm e
        · exact h
      simp [outL, e, outL_len r s hs]
def list0 (used : Nat) : List Int := iotaL used ++ List.replicate (256 - used) 0

set_option maxHeartbeats 1000000 in
theorem mtf_c (w : World) (dv lv sv : Value) (ds ls : List Int) (sq : Nat → Int) (used B : Nat) (hown : w.ownsRow B 42 1 dv ds.length (ds.map (Value.int .u16))) (hB : B ≤ w.heap.size)
    (hread : ∀ w', w.grownBy w' dv.ownBlock → IntsV .u8 w' lv ls ∧ (ls ≠ [] → SeqV w' sv sq)) (hu : used ≤ 256) (hb : ∀ x ∈ ls, 0 ≤ x ∧ x < 256) (hr : ∀ x ∈ ls, 0 ≤ sq x.toNat ∧ sq x.toNat < used) (hdl : ds.length ≤ 1048576) (hll : ls.length ≤ 1048576) :
    Calls Try.prog 28 #[dv, lv, sv, .int .i64 used] w fun r w' => ∃ v', r = .returned v' ∧ w'.ownsRow B 42 1 v' (ds ++ encG used (ls.map fun x => sq x.toNat) (list0 used) 0).length ((ds ++ encG used (ls.map fun x => sq x.toNat) (list0 used) 0).map (Value.int .u16)) ∧ OwnStep w dv w' v' := by
  obtain ⟨al, cl, hlv, _⟩ := (hread w ⟨rfl, rfl, rfl, Nat.le_refl _, fun _ _ _ => rfl⟩).1
  subst hlv
  refine Calls.of_W (args := [dv, .slice al ls.length cl, sv, .int .i64 used]) Try.func28 rfl rfl rfl ?_
  repeat (first | refine WL.move rfl rfl ?_ | refine WL.assign rfl rfl ?_ | refine W.seq ?_ | refine W.region ?_ | refine WL.nil ?_ | refine Post.next ?_ | refine Post.tail ?_ | refine W.cond_t rfl ?_ | refine W.cond_f rfl ?_ | refine W.block ?_ | refine W.skip ?_ | refine W.exit ?_ | refine W.ret ?_ | refine Post.block_exit ?_ | refine Post.block_other rfl ?_ | refine Post.then_exit ?_ | refine Post.then_ret ?_ | refine Post.block_ret ?_ | refine Post.block_normal ?_ | refine WL.lenS (tyS rfl) rfl rfl ?_ | refine WL.lenStr und9 rfl rfl ?_ | refine WL.fieldAddr (tyF rfl) rfl rfl ?_ | refine WL.not rfl rfl ?_ | refine WL.pick_t rfl rfl rfl ?_ | refine WL.pick_f rfl rfl rfl ?_ | refine WL.want rfl rfl ?_ | refine WL.skip rfl rfl rfl rfl ?_ | refine WL.extract rfl rfl rfl ?_)
  refine WL.alloc zero52 rfl ?_
  intro w1 hg1 hz1 hr1
  refine ⟨trivial, ?_⟩
  have hs1 : OwnStep w dv w1 dv := (OwnStep.refl w dv).none hg1
  have ho1 := ownsRow_up hown (Up.grown hg1)
  generalize hgdef : w.heap.size = g at *
  have hr1' : Row w1 g (bytesC (List.replicate 256 0)) 52 := by unfold bytesC; rw [List.map_replicate]; exact hr1
  repeat (first | refine WL.move rfl rfl ?_ | refine WL.assign rfl rfl ?_ | refine W.seq ?_ | refine W.region ?_ | refine WL.nil ?_ | refine Post.next ?_ | refine Post.tail ?_ | refine W.cond_t rfl ?_ | refine W.cond_f rfl ?_ | refine W.block ?_ | refine W.skip ?_ | refine W.exit ?_ | refine W.ret ?_ | refine Post.block_exit ?_ | refine Post.block_other rfl ?_ | refine Post.then_exit ?_ | refine Post.then_ret ?_ | refine Post.block_ret ?_ | refine Post.block_normal ?_ | refine WL.lenS (tyS rfl) rfl rfl ?_ | refine WL.lenStr und9 rfl rfl ?_ | refine WL.fieldAddr (tyF rfl) rfl rfl ?_ | refine WL.not rfl rfl ?_ | refine WL.pick_t rfl rfl rfl ?_ | refine WL.pick_f rfl rfl rfl ?_ | refine WL.want rfl rfl ?_ | refine WL.skip rfl rfl rfl rfl ?_ | refine WL.extract rfl rfl rfl ?_)
  -- the list, as it starts
  refine W.loop2 (fun (k : Nat) (_ : List Int) => [(0, dv), (1, .slice al ls.length cl), (2, sv), (3, .int .i64 used), (9, .pointer (some ⟨g, 0, none⟩)), (17, .int .i64 used), (18, .int .i64 k)])
    (fun k L wr => k ≤ used ∧ L.length = 256 ∧ L = iotaL k ++ List.replicate (256 - k) 0 ∧ Row wr g (bytesC L) 52 ∧ wr.ownsRow B 42 1 dv ds.length (ds.map (Value.int .u16)) ∧ OwnStep w dv wr dv) (fun k _ => used - k) 0 (List.replicate 256 0) ⟨rfl, rfl, rfl, rfl, rfl, rfl, rfl, trivial⟩ ⟨by omega, List.length_replicate, rfl, hr1', ho1, hs1⟩ ?_
  rintro k L wr ⟨hk, hL, hLe, hrow, ho, hst⟩
  repeat (first | refine WL.move rfl rfl ?_ | refine WL.assign rfl rfl ?_ | refine W.seq ?_ | refine W.region ?_ | refine WL.nil ?_ | refine Post.next ?_ | refine Post.tail ?_ | refine W.cond_t rfl ?_ | refine W.cond_f rfl ?_ | refine W.block ?_ | refine W.skip ?_ | refine W.exit ?_ | refine W.ret ?_ | refine Post.block_exit ?_ | refine Post.block_other rfl ?_ | refine Post.then_exit ?_ | refine Post.then_ret ?_ | refine Post.block_ret ?_ | refine Post.block_normal ?_ | refine WL.lenS (tyS rfl) rfl rfl ?_ | refine WL.lenStr und9 rfl rfl ?_ | refine WL.fieldAddr (tyF rfl) rfl rfl ?_ | refine WL.not rfl rfl ?_ | refine WL.pick_t rfl rfl rfl ?_ | refine WL.pick_f rfl rfl rfl ?_ | refine WL.want rfl rfl ?_ | refine WL.skip rfl rfl rfl rfl ?_ | refine WL.extract rfl rfl rfl ?_)
  refine WL.lss rfl rfl rfl (fun hlt => ?_) (fun hge => ?_)
  · repeat (first | refine WL.move rfl rfl ?_ | refine WL.assign rfl rfl ?_ | refine W.seq ?_ | refine W.region ?_ | refine WL.nil ?_ | refine Post.next ?_ | refine Post.tail ?_ | refine W.cond_t rfl ?_ | refine W.cond_f rfl ?_ | refine W.block ?_ | refine W.skip ?_ | refine W.exit ?_ | refine W.ret ?_ | refine Post.block_exit ?_ | refine Post.block_other rfl ?_ | refine Post.then_exit ?_ | refine Post.then_ret ?_ | refine Post.block_ret ?_ | refine Post.block_normal ?_ | refine WL.lenS (tyS rfl) rfl rfl ?_ | refine WL.lenStr und9 rfl rfl ?_ | refine WL.fieldAddr (tyF rfl) rfl rfl ?_ | refine WL.not rfl rfl ?_ | refine WL.pick_t rfl rfl rfl ?_ | refine WL.pick_f rfl rfl rfl ?_ | refine WL.want rfl rfl ?_ | refine WL.skip rfl rfl rfl rfl ?_ | refine WL.extract rfl rfl rfl ?_)
    refine WL.conv' (kd' := .u8) (tyI rfl) (tyI rfl) rfl (u8w (by omega) (by omega)) rfl ?_
    repeat (first | refine WL.move rfl rfl ?_ | refine WL.assign rfl rfl ?_ | refine W.seq ?_ | refine W.region ?_ | refine WL.nil ?_ | refine Post.next ?_ | refine Post.tail ?_ | refine W.cond_t rfl ?_ | refine W.cond_f rfl ?_ | refine W.block ?_ | refine W.skip ?_ | refine W.exit ?_ | refine W.ret ?_ | refine Post.block_exit ?_ | refine Post.block_other rfl ?_ | refine Post.then_exit ?_ | refine Post.then_ret ?_ | refine Post.block_ret ?_ | refine Post.block_normal ?_ | refine WL.lenS (tyS rfl) rfl rfl ?_ | refine WL.lenStr und9 rfl rfl ?_ | refine WL.fieldAddr (tyF rfl) rfl rfl ?_ | refine WL.not rfl rfl ?_ | refine WL.pick_t rfl rfl rfl ?_ | refine WL.pick_f rfl rfl rfl ?_ | refine WL.want rfl rfl ?_ | refine WL.skip rfl rfl rfl rfl ?_ | refine WL.extract rfl rfl rfl ?_ | refine WL.addI rfl rfl (by omega) rfl ?_ | refine WL.subI rfl rfl (by omega) rfl ?_ | refine WL.indexS (tyS rfl) rfl rfl (by omega) rfl ?_ | refine WL.indexA (tyR rfl) rfl rfl (by omega) rfl ?_)
    refine WL.store (o' := k) (tyP rfl) rfl rfl rfl hrow (by first | omega | (simp; done) | (simp; omega)) (by simp [bytesC, hL]; omega) ?_
    intro w2 hg2 hz2 hr2
    refine ⟨trivial, ?_⟩
    rw [spl_set _ _ _ (by omega)] at hr2
    repeat (first | refine WL.move rfl rfl ?_ | refine WL.assign rfl rfl ?_ | refine W.seq ?_ | refine W.region ?_ | refine WL.nil ?_ | refine Post.next ?_ | refine Post.tail ?_ | refine W.cond_t rfl ?_ | refine W.cond_f rfl ?_ | refine W.block ?_ | refine W.skip ?_ | refine W.exit ?_ | refine W.ret ?_ | refine Post.block_exit ?_ | refine Post.block_other rfl ?_ | refine Post.then_exit ?_ | refine Post.then_ret ?_ | refine Post.block_ret ?_ | refine Post.block_normal ?_ | refine WL.lenS (tyS rfl) rfl rfl ?_ | refine WL.lenStr und9 rfl rfl ?_ | refine WL.fieldAddr (tyF rfl) rfl rfl ?_ | refine WL.not rfl rfl ?_ | refine WL.pick_t rfl rfl rfl ?_ | refine WL.pick_f rfl rfl rfl ?_ | refine WL.want rfl rfl ?_ | refine WL.skip rfl rfl rfl rfl ?_ | refine WL.extract rfl rfl rfl ?_ | refine WL.addI rfl rfl (by omega) rfl ?_ | refine WL.subI rfl rfl (by omega) rfl ?_ | refine WL.indexS (tyS rfl) rfl rfl (by omega) rfl ?_ | refine WL.indexA (tyR rfl) rfl rfl (by omega) rfl ?_)
    refine Post.round2 (k + 1) (L.set k (k : Int)) ⟨rfl, rfl, rfl, rfl, rfl, rfl, (by first | rfl | (simp [look]; done) | (simp [look]; omega)), trivial⟩ ⟨by omega, by simp [hL], ?_, hr2, ho.kept hg2 (.inr (own_ne_row ho hrow (by decide))), hst.new hg2 (by omega)⟩ (by first | omega | (simp; done) | (simp; omega))
    rw [hLe]
    have hlen : (iotaL k).length = k := by simp [iotaL]
    have e1 : 256 - k = (256 - (k + 1)) + 1 := by omega
    rw [e1, List.replicate_succ, List.set_append_right _ _ (by omega), hlen, Nat.sub_self]
    simp [iotaL, List.range_succ]
  · have hku : k = used := by omega
    subst hku
    have hL0 : L = list0 k := hLe
    subst hL0
    have hL256 : (list0 k).length = 256 := hL
    have hmem0 : ∀ s : Int, 0 ≤ s → s < k → s ∈ list0 k := fun s h1 h2 => List.mem_append_left _ (List.mem_map.2 ⟨s.toNat, List.mem_range.2 (by omega), by show Int.ofNat s.toNat = s; simp; omega⟩)
    generalize list0 k = Lz at *
    clear hge hk hL hLe
    repeat (first | refine WL.move rfl rfl ?_ | refine WL.assign rfl rfl ?_ | refine W.seq ?_ | refine W.region ?_ | refine WL.nil ?_ | refine Post.next ?_ | refine Post.tail ?_ | refine W.cond_t rfl ?_ | refine W.cond_f rfl ?_ | refine W.block ?_ | refine W.skip ?_ | refine W.exit ?_ | refine W.ret ?_ | refine Post.block_exit ?_ | refine Post.block_other rfl ?_ | refine Post.then_exit ?_ | refine Post.then_ret ?_ | refine Post.block_ret ?_ | refine Post.block_normal ?_ | refine WL.lenS (tyS rfl) rfl rfl ?_ | refine WL.lenStr und9 rfl rfl ?_ | refine WL.fieldAddr (tyF rfl) rfl rfl ?_ | refine WL.not rfl rfl ?_ | refine WL.pick_t rfl rfl rfl ?_ | refine WL.pick_f rfl rfl rfl ?_ | refine WL.want rfl rfl ?_ | refine WL.skip rfl rfl rfl rfl ?_ | refine WL.extract rfl rfl rfl ?_)
    refine W.loop5 (fun (j : Nat) (_ : List Int) (z : Nat) (_ : List Int) (u : Value) => [(0, u), (1, .slice al ls.length cl), (2, sv), (3, .int .i64 k), (9, .pointer (some ⟨g, 0, none⟩)), (11, .int .i64 z), (26, .slice al ls.length cl), (27, .int .i64 ls.length), (28, .int .i64 j)])
      (fun j L z cs u wr => j ≤ ls.length ∧ L.length = 256 ∧ (∀ s : Int, 0 ≤ s → s < k → s ∈ L) ∧ z ≤ j ∧ cs ++ encG k ((ls.map fun x => sq x.toNat).drop j) L z = ds ++ encG k (ls.map fun x => sq x.toNat) Lz 0 ∧ cs.length + z ≤ ds.length + 2 * j ∧ Row wr g (bytesC L) 52 ∧ wr.ownsRow B 42 1 u cs.length (cs.map (Value.int .u16)) ∧ OwnStep w dv wr u) (fun j _ _ _ _ => ls.length - j) 0 Lz 0 ds dv
      ⟨rfl, rfl, rfl, rfl, rfl, rfl, rfl, rfl, rfl, trivial⟩ ⟨by omega, hL256, hmem0, by omega, rfl, by omega, hrow, ho, hst⟩ ?_
    clear hrow ho hst hr1' hr1 hs1 ho1 hg1 hz1
    rintro j L z cs u wr ⟨hj, hL, hmem, hz, heq, hcl, hrow, ho, hst⟩
    repeat (first | refine WL.move rfl rfl ?_ | refine WL.assign rfl rfl ?_ | refine W.seq ?_ | refine W.region ?_ | refine WL.nil ?_ | refine Post.next ?_ | refine Post.tail ?_ | refine W.cond_t rfl ?_ | refine W.cond_f rfl ?_ | refine W.block ?_ | refine W.skip ?_ | refine W.exit ?_ | refine W.ret ?_ | refine Post.block_exit ?_ | refine Post.block_other rfl ?_ | refine Post.then_exit ?_ | refine Post.then_ret ?_ | refine Post.block_ret ?_ | refine Post.block_normal ?_ | refine WL.lenS (tyS rfl) rfl rfl ?_ | refine WL.lenStr und9 rfl rfl ?_ | refine WL.fieldAddr (tyF rfl) rfl rfl ?_ | refine WL.not rfl rfl ?_ | refine WL.pick_t rfl rfl rfl ?_ | refine WL.pick_f rfl rfl rfl ?_ | refine WL.want rfl rfl ?_ | refine WL.skip rfl rfl rfl rfl ?_ | refine WL.extract rfl rfl rfl ?_)
    refine WL.lss rfl rfl rfl (fun hlt => ?_) (fun hge => ?_)
    · have hj' : j < ls.length := by omega
      have hjm : ls[j] ∈ ls := List.getElem_mem hj'
      obtain ⟨⟨a2, c2, e2, hin, _⟩, hseq⟩ := hread wr hst.g
      cases e2
      obtain ⟨bk, o, e3, hcell⟩ := hin.get hj'
      cases e3
      obtain ⟨bs, os, e4, hsc⟩ := hseq (by intro e; subst e; simp at hj')
      subst e4
      obtain ⟨hb0, hb1⟩ := hb _ hjm
      obtain ⟨hr0, hr1⟩ := hr _ hjm
      have hc := hsc (ls[j]).toNat (by omega)
      have hdrop : (ls.map fun x => sq x.toNat).drop j = sq (ls[j]).toNat :: (ls.map fun x => sq x.toNat).drop (j + 1) := by
        rw [List.drop_eq_getElem_cons (by simpa using hj')]; simp
      have hsm := hmem _ hr0 hr1
      generalize hs : sq (ls[j]).toNat = s at *
      have hBr : B ≤ wr.heap.size := by have := hst.g.size; omega
      have hpos : 0 < L.length := by omega
      rw [hdrop] at heq
      repeat (first | refine WL.move rfl rfl ?_ | refine WL.assign rfl rfl ?_ | refine W.seq ?_ | refine W.region ?_ | refine WL.nil ?_ | refine Post.next ?_ | refine Post.tail ?_ | refine W.cond_t rfl ?_ | refine W.cond_f rfl ?_ | refine W.block ?_ | refine W.skip ?_ | refine W.exit ?_ | refine W.ret ?_ | refine Post.block_exit ?_ | refine Post.block_other rfl ?_ | refine Post.then_exit ?_ | refine Post.then_ret ?_ | refine Post.block_ret ?_ | refine Post.block_normal ?_ | refine WL.lenS (tyS rfl) rfl rfl ?_ | refine WL.lenStr und9 rfl rfl ?_ | refine WL.fieldAddr (tyF rfl) rfl rfl ?_ | refine WL.not rfl rfl ?_ | refine WL.pick_t rfl rfl rfl ?_ | refine WL.pick_f rfl rfl rfl ?_ | refine WL.want rfl rfl ?_ | refine WL.skip rfl rfl rfl rfl ?_ | refine WL.extract rfl rfl rfl ?_ | refine WL.addI rfl rfl (by omega) rfl ?_ | refine WL.subI rfl rfl (by omega) rfl ?_ | refine WL.indexS (tyS rfl) rfl rfl (by omega) rfl ?_ | refine WL.indexA (tyR rfl) rfl rfl (by omega) rfl ?_)
      refine WL.load (o' := o + j) (tyP rfl) rfl (fun _ e => e) (hcell j hj') (by first | omega | (simp; done) | (simp; omega)) rfl ?_
      repeat (first | refine WL.move rfl rfl ?_ | refine WL.assign rfl rfl ?_ | refine W.seq ?_ | refine W.region ?_ | refine WL.nil ?_ | refine Post.next ?_ | refine Post.tail ?_ | refine W.cond_t rfl ?_ | refine W.cond_f rfl ?_ | refine W.block ?_ | refine W.skip ?_ | refine W.exit ?_ | refine W.ret ?_ | refine Post.block_exit ?_ | refine Post.block_other rfl ?_ | refine Post.then_exit ?_ | refine Post.then_ret ?_ | refine Post.block_ret ?_ | refine Post.block_normal ?_ | refine WL.lenS (tyS rfl) rfl rfl ?_ | refine WL.lenStr und9 rfl rfl ?_ | refine WL.fieldAddr (tyF rfl) rfl rfl ?_ | refine WL.not rfl rfl ?_ | refine WL.pick_t rfl rfl rfl ?_ | refine WL.pick_f rfl rfl rfl ?_ | refine WL.want rfl rfl ?_ | refine WL.skip rfl rfl rfl rfl ?_ | refine WL.extract rfl rfl rfl ?_)
      refine WL.nilCheck rfl rfl ?_
      repeat (first | refine WL.move rfl rfl ?_ | refine WL.assign rfl rfl ?_ | refine W.seq ?_ | refine W.region ?_ | refine WL.nil ?_ | refine Post.next ?_ | refine Post.tail ?_ | refine W.cond_t rfl ?_ | refine W.cond_f rfl ?_ | refine W.block ?_ | refine W.skip ?_ | refine W.exit ?_ | refine W.ret ?_ | refine Post.block_exit ?_ | refine Post.block_other rfl ?_ | refine Post.then_exit ?_ | refine Post.then_ret ?_ | refine Post.block_ret ?_ | refine Post.block_normal ?_ | refine WL.lenS (tyS rfl) rfl rfl ?_ | refine WL.lenStr und9 rfl rfl ?_ | refine WL.fieldAddr (tyF rfl) rfl rfl ?_ | refine WL.not rfl rfl ?_ | refine WL.pick_t rfl rfl rfl ?_ | refine WL.pick_f rfl rfl rfl ?_ | refine WL.want rfl rfl ?_ | refine WL.skip rfl rfl rfl rfl ?_ | refine WL.extract rfl rfl rfl ?_ | refine WL.addI rfl rfl (by omega) rfl ?_ | refine WL.subI rfl rfl (by omega) rfl ?_ | refine WL.indexS (tyS rfl) rfl rfl (by omega) rfl ?_ | refine WL.indexA (tyR rfl) rfl rfl (by omega) rfl ?_)
      refine WL.load (o' := os + (ls[j]).toNat) (tyP rfl) rfl (fun _ e => e) hc (by first | omega | (simp; done) | (simp; omega)) rfl ?_
      repeat (first | refine WL.move rfl rfl ?_ | refine WL.assign rfl rfl ?_ | refine W.seq ?_ | refine W.region ?_ | refine WL.nil ?_ | refine Post.next ?_ | refine Post.tail ?_ | refine W.cond_t rfl ?_ | refine W.cond_f rfl ?_ | refine W.block ?_ | refine W.skip ?_ | refine W.exit ?_ | refine W.ret ?_ | refine Post.block_exit ?_ | refine Post.block_other rfl ?_ | refine Post.then_exit ?_ | refine Post.then_ret ?_ | refine Post.block_ret ?_ | refine Post.block_normal ?_ | refine WL.lenS (tyS rfl) rfl rfl ?_ | refine WL.lenStr und9 rfl rfl ?_ | refine WL.fieldAddr (tyF rfl) rfl rfl ?_ | refine WL.not rfl rfl ?_ | refine WL.pick_t rfl rfl rfl ?_ | refine WL.pick_f rfl rfl rfl ?_ | refine WL.want rfl rfl ?_ | refine WL.skip rfl rfl rfl rfl ?_ | refine WL.extract rfl rfl rfl ?_ | refine WL.addI rfl rfl (by omega) rfl ?_ | refine WL.subI rfl rfl (by omega) rfl ?_ | refine WL.indexS (tyS rfl) rfl rfl (by omega) rfl ?_ | refine WL.indexA (tyR rfl) rfl rfl (by omega) rfl ?_)
      refine WL.load (o' := 0) (tyP rfl) rfl (fun _ e => e) (hrow.cell (bytesC_get hpos)) (by first | omega | (simp; done) | (simp; omega)) rfl ?_
      repeat (first | refine WL.move rfl rfl ?_ | refine WL.assign rfl rfl ?_ | refine W.seq ?_ | refine W.region ?_ | refine WL.nil ?_ | refine Post.next ?_ | refine Post.tail ?_ | refine W.cond_t rfl ?_ | refine W.cond_f rfl ?_ | refine W.block ?_ | refine W.skip ?_ | refine W.exit ?_ | refine W.ret ?_ | refine Post.block_exit ?_ | refine Post.block_other rfl ?_ | refine Post.then_exit ?_ | refine Post.then_ret ?_ | refine Post.block_ret ?_ | refine Post.block_normal ?_ | refine WL.lenS (tyS rfl) rfl rfl ?_ | refine WL.lenStr und9 rfl rfl ?_ | refine WL.fieldAddr (tyF rfl) rfl rfl ?_ | refine WL.not rfl rfl ?_ | refine WL.pick_t rfl rfl rfl ?_ | refine WL.pick_f rfl rfl rfl ?_ | refine WL.want rfl rfl ?_ | refine WL.skip rfl rfl rfl rfl ?_ | refine WL.extract rfl rfl rfl ?_)
      refine WL.eqI rfl rfl rfl (fun he => ?_) (fun hne => ?_)
      · have hhd : L.head? = some s := by rw [List.head?_eq_getElem?, List.getElem?_eq_getElem hpos, he]
        repeat (first | refine WL.move rfl rfl ?_ | refine WL.assign rfl rfl ?_ | refine W.seq ?_ | refine W.region ?_ | refine WL.nil ?_ | refine Post.next ?_ | refine Post.tail ?_ | refine W.cond_t rfl ?_ | refine W.cond_f rfl ?_ | refine W.block ?_ | refine W.skip ?_ | refine W.exit ?_ | refine W.ret ?_ | refine Post.block_exit ?_ | refine Post.block_other rfl ?_ | refine Post.then_exit ?_ | refine Post.then_ret ?_ | refine Post.block_ret ?_ | refine Post.block_normal ?_ | refine WL.lenS (tyS rfl) rfl rfl ?_ | refine WL.lenStr und9 rfl rfl ?_ | refine WL.fieldAddr (tyF rfl) rfl rfl ?_ | refine WL.not rfl rfl ?_ | refine WL.pick_t rfl rfl rfl ?_ | refine WL.pick_f rfl rfl rfl ?_ | refine WL.want rfl rfl ?_ | refine WL.skip rfl rfl rfl rfl ?_ | refine WL.extract rfl rfl rfl ?_ | refine WL.addI rfl rfl (by omega) rfl ?_ | refine WL.subI rfl rfl (by omega) rfl ?_ | refine WL.indexS (tyS rfl) rfl rfl (by omega) rfl ?_ | refine WL.indexA (tyR rfl) rfl rfl (by omega) rfl ?_)
        refine Post.round5 (j + 1) L (z + 1) cs u ⟨rfl, rfl, rfl, rfl, rfl, (by first | rfl | (simp [look]; done) | (simp [look]; omega)), rfl, rfl, (by first | rfl | (simp [look]; done) | (simp [look]; omega)), trivial⟩ ⟨by omega, hL, hmem, by omega, ?_, by omega, hrow, ho, hst⟩ (by first | omega | (simp; done) | (simp; omega))
        rw [encG, if_pos hhd] at heq
        exact heq
      · have hhd : L.head? ≠ some s := fun h => hne (by rw [List.head?_eq_getElem?, List.getElem?_eq_getElem hpos] at h; exact Option.some.inj h)
        obtain ⟨p, hp, hps⟩ := List.getElem_of_mem hsm
        rw [encG, if_neg hhd] at heq
        repeat (first | refine WL.move rfl rfl ?_ | refine WL.assign rfl rfl ?_ | refine W.seq ?_ | refine W.region ?_ | refine WL.nil ?_ | refine Post.next ?_ | refine Post.tail ?_ | refine W.cond_t rfl ?_ | refine W.cond_f rfl ?_ | refine W.block ?_ | refine W.skip ?_ | refine W.exit ?_ | refine W.ret ?_ | refine Post.block_exit ?_ | refine Post.block_other rfl ?_ | refine Post.then_exit ?_ | refine Post.then_ret ?_ | refine Post.block_ret ?_ | refine Post.block_normal ?_ | refine WL.lenS (tyS rfl) rfl rfl ?_ | refine WL.lenStr und9 rfl rfl ?_ | refine WL.fieldAddr (tyF rfl) rfl rfl ?_ | refine WL.not rfl rfl ?_ | refine WL.pick_t rfl rfl rfl ?_ | refine WL.pick_f rfl rfl rfl ?_ | refine WL.want rfl rfl ?_ | refine WL.skip rfl rfl rfl rfl ?_ | refine WL.extract rfl rfl rfl ?_)
        refine WL.call _ (fnT rfl) (args2 rfl rfl) (appendRun_c wr u cs z B ho hBr (by omega) (by omega)) (by rintro e w' ⟨_, rfl, _⟩; exact ⟨_, rfl⟩) rfl ?_
        rintro v w2 ⟨u1, hv, ho2, hst2⟩
        have hv := (Ending.returned.inj hv).symm
        subst hv
        refine ⟨trivial, ?_⟩
        have hrow2 : Row w2 g (bytesC L) 52 := hrow.kept hst2.g (own_ne_row ho hrow (by decide))
        have hst' := hst.trans hst2
        have hrl := runD_len z z (Nat.le_refl _)
        have hlen2 : (cs ++ runD z).length ≤ ds.length + 2 * j := by simp; omega
        generalize hcs2 : cs ++ runD z = cs2 at *
        have hs1 : L[0] ≠ s := fun h => hne h
        repeat (first | refine WL.move rfl rfl ?_ | refine WL.assign rfl rfl ?_ | refine W.seq ?_ | refine W.region ?_ | refine WL.nil ?_ | refine Post.next ?_ | refine Post.tail ?_ | refine W.cond_t rfl ?_ | refine W.cond_f rfl ?_ | refine W.block ?_ | refine W.skip ?_ | refine W.exit ?_ | refine W.ret ?_ | refine Post.block_exit ?_ | refine Post.block_other rfl ?_ | refine Post.then_exit ?_ | refine Post.then_ret ?_ | refine Post.block_ret ?_ | refine Post.block_normal ?_ | refine WL.lenS (tyS rfl) rfl rfl ?_ | refine WL.lenStr und9 rfl rfl ?_ | refine WL.fieldAddr (tyF rfl) rfl rfl ?_ | refine WL.not rfl rfl ?_ | refine WL.pick_t rfl rfl rfl ?_ | refine WL.pick_f rfl rfl rfl ?_ | refine WL.want rfl rfl ?_ | refine WL.skip rfl rfl rfl rfl ?_ | refine WL.extract rfl rfl rfl ?_ | refine WL.addI rfl rfl (by omega) rfl ?_ | refine WL.subI rfl rfl (by omega) rfl ?_ | refine WL.indexS (tyS rfl) rfl rfl (by omega) rfl ?_ | refine WL.indexA (tyR rfl) rfl rfl (by omega) rfl ?_)
        refine WL.load (o' := 0) (tyP rfl) rfl (fun _ e => e) (hrow2.cell (bytesC_get hpos)) (by first | omega | (simp; done) | (simp; omega)) rfl ?_
        repeat (first | refine WL.move rfl rfl ?_ | refine WL.assign rfl rfl ?_ | refine W.seq ?_ | refine W.region ?_ | refine WL.nil ?_ | refine Post.next ?_ | refine Post.tail ?_ | refine W.cond_t rfl ?_ | refine W.cond_f rfl ?_ | refine W.block ?_ | refine W.skip ?_ | refine W.exit ?_ | refine W.ret ?_ | refine Post.block_exit ?_ | refine Post.block_other rfl ?_ | refine Post.then_exit ?_ | refine Post.then_ret ?_ | refine Post.block_ret ?_ | refine Post.block_normal ?_ | refine WL.lenS (tyS rfl) rfl rfl ?_ | refine WL.lenStr und9 rfl rfl ?_ | refine WL.fieldAddr (tyF rfl) rfl rfl ?_ | refine WL.not rfl rfl ?_ | refine WL.pick_t rfl rfl rfl ?_ | refine WL.pick_f rfl rfl rfl ?_ | refine WL.want rfl rfl ?_ | refine WL.skip rfl rfl rfl rfl ?_ | refine WL.extract rfl rfl rfl ?_)
        refine W.loop (fun (i : Nat) => [(0, u1), (1, .slice (some ⟨bk, o, none⟩) ls.length cl), (2, .pointer (some ⟨bs, os, none⟩)), (3, .int .i64 k), (9, .pointer (some ⟨g, 0, none⟩)), (11, .int .i64 (0 : Nat)), (14, .int .u8 s), (15, .int .i64 i), (16, .int .u8 ((L[i - 1]?).getD 0)), (26, .slice (some ⟨bk, o, none⟩) ls.length cl), (27, .int .i64 ls.length), (28, .int .i64 j)])
          (fun i wx => 1 ≤ i ∧ i ≤ p ∧ (∀ q, (h : q < L.length) → q < i → L[q] ≠ s) ∧ Row wx g (bytesC (curL L i)) 52 ∧ wx.ownsRow B 42 1 u1 cs2.length (cs2.map (Value.int .u16)) ∧ OwnStep w dv wx u1) (fun i => 256 - i) 1 ⟨rfl, rfl, rfl, rfl, rfl, rfl, rfl, rfl, by rw [List.getElem?_eq_getElem (by omega)]; rfl, rfl, rfl, rfl, trivial⟩
          ⟨Nat.le_refl _, ?_, ?_, by rw [curL_one L (by omega)]; exact hrow2, ho2, hst'⟩ ?_
        · rcases Nat.eq_zero_or_pos p with e | e
          · subst e; exact absurd hps hs1
          · exact e
        · intro q h hq
          have : q = 0 := by omega
          subst this; exact hs1
        rintro i wx ⟨hi1, hip, hno, hrx, hox, hsx⟩
        have hi256 : i < L.length := by omega
        have hcl' := curL_len hi1 (Nat.le_of_lt hi256)
        have hcur : (bytesC (curL L i))[i]? = some (.int .u8 L[i]) := by
          unfold bytesC
          rw [List.getElem?_map, curL_at hi1 (by omega), if_neg (by omega), if_neg (by omega), List.getElem?_eq_getElem hi256]; rfl
        have htmp : (L[i - 1]?).getD 0 = L[i - 1]'(by omega) := by rw [List.getElem?_eq_getElem (by omega)]; rfl
        have hset : (curL L i).set i ((L[i - 1]?).getD 0) = curL L (i + 1) := by rw [htmp]; exact curL_set hi1 hi256
        repeat (first | refine WL.move rfl rfl ?_ | refine WL.assign rfl rfl ?_ | refine W.seq ?_ | refine W.region ?_ | refine WL.nil ?_ | refine Post.next ?_ | refine Post.tail ?_ | refine W.cond_t rfl ?_ | refine W.cond_f rfl ?_ | refine W.block ?_ | refine W.skip ?_ | refine W.exit ?_ | refine W.ret ?_ | refine Post.block_exit ?_ | refine Post.block_other rfl ?_ | refine Post.then_exit ?_ | refine Post.then_ret ?_ | refine Post.block_ret ?_ | refine Post.block_normal ?_ | refine WL.lenS (tyS rfl) rfl rfl ?_ | refine WL.lenStr und9 rfl rfl ?_ | refine WL.fieldAddr (tyF rfl) rfl rfl ?_ | refine WL.not rfl rfl ?_ | refine WL.pick_t rfl rfl rfl ?_ | refine WL.pick_f rfl rfl rfl ?_ | refine WL.want rfl rfl ?_ | refine WL.skip rfl rfl rfl rfl ?_ | refine WL.extract rfl rfl rfl ?_ | refine WL.addI rfl rfl (by omega) rfl ?_ | refine WL.subI rfl rfl (by omega) rfl ?_ | refine WL.indexS (tyS rfl) rfl rfl (by omega) rfl ?_ | refine WL.indexA (tyR rfl) rfl rfl (by omega) rfl ?_)
        refine WL.load (o' := i) (tyP rfl) rfl (fun _ e => e) (hrx.cell hcur) (by first | omega | (simp; done) | (simp; omega)) rfl ?_
        repeat (first | refine WL.move rfl rfl ?_ | refine WL.assign rfl rfl ?_ | refine W.seq ?_ | refine W.region ?_ | refine WL.nil ?_ | refine Post.next ?_ | refine Post.tail ?_ | refine W.cond_t rfl ?_ | refine W.cond_f rfl ?_ | refine W.block ?_ | refine W.skip ?_ | refine W.exit ?_ | refine W.ret ?_ | refine Post.block_exit ?_ | refine Post.block_other rfl ?_ | refine Post.then_exit ?_ | refine Post.then_ret ?_ | refine Post.block_ret ?_ | refine Post.block_normal ?_ | refine WL.lenS (tyS rfl) rfl rfl ?_ | refine WL.lenStr und9 rfl rfl ?_ | refine WL.fieldAddr (tyF rfl) rfl rfl ?_ | refine WL.not rfl rfl ?_ | refine WL.pick_t rfl rfl rfl ?_ | refine WL.pick_f rfl rfl rfl ?_ | refine WL.want rfl rfl ?_ | refine WL.skip rfl rfl rfl rfl ?_ | refine WL.extract rfl rfl rfl ?_)
        refine WL.neqI rfl rfl rfl (fun hn => ?_) (fun hy => ?_)
        · have hip' : i + 1 ≤ p := by
            rcases Nat.lt_or_ge i p with h | h
            · exact h
            · have : i = p := by omega
              subst this; exact absurd hps hn
          repeat (first | refine WL.move rfl rfl ?_ | refine WL.assign rfl rfl ?_ | refine W.seq ?_ | refine W.region ?_ | refine WL.nil ?_ | refine Post.next ?_ | refine Post.tail ?_ | refine W.cond_t rfl ?_ | refine W.cond_f rfl ?_ | refine W.block ?_ | refine W.skip ?_ | refine W.exit ?_ | refine W.ret ?_ | refine Post.block_exit ?_ | refine Post.block_other rfl ?_ | refine Post.then_exit ?_ | refine Post.then_ret ?_ | refine Post.block_ret ?_ | refine Post.block_normal ?_ | refine WL.lenS (tyS rfl) rfl rfl ?_ | refine WL.lenStr und9 rfl rfl ?_ | refine WL.fieldAddr (tyF rfl) rfl rfl ?_ | refine WL.not rfl rfl ?_ | refine WL.pick_t rfl rfl rfl ?_ | refine WL.pick_f rfl rfl rfl ?_ | refine WL.want rfl rfl ?_ | refine WL.skip rfl rfl rfl rfl ?_ | refine WL.extract rfl rfl rfl ?_ | refine WL.addI rfl rfl (by omega) rfl ?_ | refine WL.subI rfl rfl (by omega) rfl ?_ | refine WL.indexS (tyS rfl) rfl rfl (by omega) rfl ?_ | refine WL.indexA (tyR rfl) rfl rfl (by omega) rfl ?_)
          refine WL.load (o' := i) (tyP rfl) rfl (fun _ e => e) (hrx.cell hcur) (by first | omega | (simp; done) | (simp; omega)) rfl ?_
          repeat (first | refine WL.move rfl rfl ?_ | refine WL.assign rfl rfl ?_ | refine W.seq ?_ | refine W.region ?_ | refine WL.nil ?_ | refine Post.next ?_ | refine Post.tail ?_ | refine W.cond_t rfl ?_ | refine W.cond_f rfl ?_ | refine W.block ?_ | refine W.skip ?_ | refine W.exit ?_ | refine W.ret ?_ | refine Post.block_exit ?_ | refine Post.block_other rfl ?_ | refine Post.then_exit ?_ | refine Post.then_ret ?_ | refine Post.block_ret ?_ | refine Post.block_normal ?_ | refine WL.lenS (tyS rfl) rfl rfl ?_ | refine WL.lenStr und9 rfl rfl ?_ | refine WL.fieldAddr (tyF rfl) rfl rfl ?_ | refine WL.not rfl rfl ?_ | refine WL.pick_t rfl rfl rfl ?_ | refine WL.pick_f rfl rfl rfl ?_ | refine WL.want rfl rfl ?_ | refine WL.skip rfl rfl rfl rfl ?_ | refine WL.extract rfl rfl rfl ?_ | refine WL.addI rfl rfl (by omega) rfl ?_ | refine WL.subI rfl rfl (by omega) rfl ?_ | refine WL.indexS (tyS rfl) rfl rfl (by omega) rfl ?_ | refine WL.indexA (tyR rfl) rfl rfl (by omega) rfl ?_)
          refine WL.store (o' := i) (tyP rfl) rfl rfl rfl hrx (by first | omega | (simp; done) | (simp; omega)) (by simp only [bytesC, List.length_map]; omega) ?_
          intro w3 hg3 hz3 hr3
          refine ⟨trivial, ?_⟩
          rw [spl_set _ _ _ (by omega), hset] at hr3
          repeat (first | refine WL.move rfl rfl ?_ | refine WL.assign rfl rfl ?_ | refine W.seq ?_ | refine W.region ?_ | refine WL.nil ?_ | refine Post.next ?_ | refine Post.tail ?_ | refine W.cond_t rfl ?_ | refine W.cond_f rfl ?_ | refine W.block ?_ | refine W.skip ?_ | refine W.exit ?_ | refine W.ret ?_ | refine Post.block_exit ?_ | refine Post.block_other rfl ?_ | refine Post.then_exit ?_ | refine Post.then_ret ?_ | refine Post.block_ret ?_ | refine Post.block_normal ?_ | refine WL.lenS (tyS rfl) rfl rfl ?_ | refine WL.lenStr und9 rfl rfl ?_ | refine WL.fieldAddr (tyF rfl) rfl rfl ?_ | refine WL.not rfl rfl ?_ | refine WL.pick_t rfl rfl rfl ?_ | refine WL.pick_f rfl rfl rfl ?_ | refine WL.want rfl rfl ?_ | refine WL.skip rfl rfl rfl rfl ?_ | refine WL.extract rfl rfl rfl ?_ | refine WL.addI rfl rfl (by omega) rfl ?_ | refine WL.subI rfl rfl (by omega) rfl ?_ | refine WL.indexS (tyS rfl) rfl rfl (by omega) rfl ?_ | refine WL.indexA (tyR rfl) rfl rfl (by omega) rfl ?_)
          refine Post.round (i + 1) ⟨rfl, rfl, rfl, rfl, rfl, rfl, rfl, (by first | rfl | (simp [look]; done) | (simp [look]; omega)), ?_, rfl, rfl, rfl, trivial⟩ ⟨by omega, hip', ?_, hr3, hox.kept hg3 (.inr (own_ne_row hox hrx (by decide))), hsx.new hg3 (by omega)⟩ (by first | omega | (simp; done) | (simp; omega))
          · rw [Nat.add_sub_cancel, List.getElem?_eq_getElem hi256]; rfl
          · intro q h hq
            by_cases e : q = i
            · subst e; exact hn
            · exact hno q h (by omega)
        · obtain ⟨hpo, hout⟩ := pos_out L s i hi256 hy hno
          repeat (first | refine WL.move rfl rfl ?_ | refine WL.assign rfl rfl ?_ | refine W.seq ?_ | refine W.region ?_ | refine WL.nil ?_ | refine Post.next ?_ | refine Post.tail ?_ | refine W.cond_t rfl ?_ | refine W.cond_f rfl ?_ | refine W.block ?_ | refine W.skip ?_ | refine W.exit ?_ | refine W.ret ?_ | refine Post.block_exit ?_ | refine Post.block_other rfl ?_ | refine Post.then_exit ?_ | refine Post.then_ret ?_ | refine Post.block_ret ?_ | refine Post.block_normal ?_ | refine WL.lenS (tyS rfl) rfl rfl ?_ | refine WL.lenStr und9 rfl rfl ?_ | refine WL.fieldAddr (tyF rfl) rfl rfl ?_ | refine WL.not rfl rfl ?_ | refine WL.pick_t rfl rfl rfl ?_ | refine WL.pick_f rfl rfl rfl ?_ | refine WL.want rfl rfl ?_ | refine WL.skip rfl rfl rfl rfl ?_ | refine WL.extract rfl rfl rfl ?_ | refine WL.addI rfl rfl (by omega) rfl ?_ | refine WL.subI rfl rfl (by omega) rfl ?_ | refine WL.indexS (tyS rfl) rfl rfl (by omega) rfl ?_ | refine WL.indexA (tyR rfl) rfl rfl (by omega) rfl ?_)
          refine WL.store (o' := i) (tyP rfl) rfl rfl rfl hrx (by first | omega | (simp; done) | (simp; omega)) (by simp only [bytesC, List.length_map]; omega) ?_
          intro w3 hg3 hz3 hr3
          refine ⟨trivial, ?_⟩
          rw [spl_set _ _ _ (by omega), hset] at hr3
          have ho3 := hox.kept hg3 (.inr (own_ne_row hox hrx (by decide)))
          have hlen3 : (curL L (i + 1)).length = 256 := by rw [curL_len (by omega) (by omega)]; exact hL
          repeat (first | refine WL.move rfl rfl ?_ | refine WL.assign rfl rfl ?_ | refine W.seq ?_ | refine W.region ?_ | refine WL.nil ?_ | refine Post.next ?_ | refine Post.tail ?_ | refine W.cond_t rfl ?_ | refine W.cond_f rfl ?_ | refine W.block ?_ | refine W.skip ?_ | refine W.exit ?_ | refine W.ret ?_ | refine Post.block_exit ?_ | refine Post.block_other rfl ?_ | refine Post.then_exit ?_ | refine Post.then_ret ?_ | refine Post.block_ret ?_ | refine Post.block_normal ?_ | refine WL.lenS (tyS rfl) rfl rfl ?_ | refine WL.lenStr und9 rfl rfl ?_ | refine WL.fieldAddr (tyF rfl) rfl rfl ?_ | refine WL.not rfl rfl ?_ | refine WL.pick_t rfl rfl rfl ?_ | refine WL.pick_f rfl rfl rfl ?_ | refine WL.want rfl rfl ?_ | refine WL.skip rfl rfl rfl rfl ?_ | refine WL.extract rfl rfl rfl ?_ | refine WL.addI rfl rfl (by omega) rfl ?_ | refine WL.subI rfl rfl (by omega) rfl ?_ | refine WL.indexS (tyS rfl) rfl rfl (by omega) rfl ?_ | refine WL.indexA (tyR rfl) rfl rfl (by omega) rfl ?_)
          refine WL.store (o' := 0) (tyP rfl) rfl rfl rfl hr3 (by first | omega | (simp; done) | (simp; omega)) (by simp only [bytesC, List.length_map]; omega) ?_
          intro w4 hg4 hz4 hr4
          refine ⟨trivial, ?_⟩
          rw [spl_set _ _ _ (by omega), curL_done s hi1 hi256, ← hout] at hr4
          have ho4 := ho3.kept hg4 (.inr (own_ne_row ho3 hr3 (by decide)))
          have hs4 : OwnStep w dv w4 u1 := (hsx.new hg3 (by omega)).new hg4 (by omega)
          have hci : ((i : Int) + 1) = ((i + 1 : Nat) : Int) := by omega
          repeat (first | refine WL.move rfl rfl ?_ | refine WL.assign rfl rfl ?_ | refine W.seq ?_ | refine W.region ?_ | refine WL.nil ?_ | refine Post.next ?_ | refine Post.tail ?_ | refine W.cond_t rfl ?_ | refine W.cond_f rfl ?_ | refine W.block ?_ | refine W.skip ?_ | refine W.exit ?_ | refine W.ret ?_ | refine Post.block_exit ?_ | refine Post.block_other rfl ?_ | refine Post.then_exit ?_ | refine Post.then_ret ?_ | refine Post.block_ret ?_ | refine Post.block_normal ?_ | refine WL.lenS (tyS rfl) rfl rfl ?_ | refine WL.lenStr und9 rfl rfl ?_ | refine WL.fieldAddr (tyF rfl) rfl rfl ?_ | refine WL.not rfl rfl ?_ | refine WL.pick_t rfl rfl rfl ?_ | refine WL.pick_f rfl rfl rfl ?_ | refine WL.want rfl rfl ?_ | refine WL.skip rfl rfl rfl rfl ?_ | refine WL.extract rfl rfl rfl ?_ | refine WL.addI rfl rfl (by omega) rfl ?_ | refine WL.subI rfl rfl (by omega) rfl ?_ | refine WL.indexS (tyS rfl) rfl rfl (by omega) rfl ?_ | refine WL.indexA (tyR rfl) rfl rfl (by omega) rfl ?_)
          refine WL.conv' (kd' := .u16) (tyI rfl) (tyI rfl) rfl (u16w (by omega) (by omega)) rfl ?_
          refine WL.buildSlice1 make26 rfl rfl rfl ?_
          intro wb hgb hzb hrb
          refine ⟨trivial, ?_⟩
          have hob := ownsRow_up ho4 (Up.grown hgb)
          have hBb : B ≤ wb.heap.size := by have := hs4.g.size; omega
          refine WL.appendL make26 rfl rfl hob hrb rfl (by simp [Value.oneCell']) (by omega) (by omega) hBb rfl ?_
          intro u' wc hoc hgc hlc _
          refine ⟨trivial, ?_⟩
          have hrb4 := hr4.up (Up.grown hgb)
          rw [hci] at hoc
          repeat (first | refine WL.move rfl rfl ?_ | refine WL.assign rfl rfl ?_ | refine W.seq ?_ | refine W.region ?_ | refine WL.nil ?_ | refine Post.next ?_ | refine Post.tail ?_ | refine W.cond_t rfl ?_ | refine W.cond_f rfl ?_ | refine W.block ?_ | refine W.skip ?_ | refine W.exit ?_ | refine W.ret ?_ | refine Post.block_exit ?_ | refine Post.block_other rfl ?_ | refine Post.then_exit ?_ | refine Post.then_ret ?_ | refine Post.block_ret ?_ | refine Post.block_normal ?_ | refine WL.lenS (tyS rfl) rfl rfl ?_ | refine WL.lenStr und9 rfl rfl ?_ | refine WL.fieldAddr (tyF rfl) rfl rfl ?_ | refine WL.not rfl rfl ?_ | refine WL.pick_t rfl rfl rfl ?_ | refine WL.pick_f rfl rfl rfl ?_ | refine WL.want rfl rfl ?_ | refine WL.skip rfl rfl rfl rfl ?_ | refine WL.extract rfl rfl rfl ?_ | refine WL.addI rfl rfl (by omega) rfl ?_ | refine WL.subI rfl rfl (by omega) rfl ?_ | refine WL.indexS (tyS rfl) rfl rfl (by omega) rfl ?_ | refine WL.indexA (tyR rfl) rfl rfl (by omega) rfl ?_)
          refine Post.round5 (j + 1) (s :: outL s L) 0 (cs2 ++ [((i + 1 : Nat) : Int)]) u' ⟨rfl, rfl, rfl, rfl, rfl, rfl, rfl, rfl, (by first | rfl | (simp [look]; done) | (simp [look]; omega)), trivial⟩ ⟨by omega, ?_, ?_, by omega, ?_, by simp; omega, hrb4.kept hgc (own_ne_row hob hrb4 (by decide)), own_int_snoc hoc, hs4.app hgb hgc hlc⟩ (by first | omega | (simp; done) | (simp; omega))
          · have := outL_len L s hsm
            simp only [List.length_cons]; omega
          · intro x h1 h2
            exact List.mem_cons.2 ((outL_mem L s x hsm).1 (hmem x h1 h2))
          · rw [hpo, ← List.append_assoc, hcs2] at heq
            rw [List.append_assoc, List.singleton_append]
            exact heq
    · have hjl : j = ls.length := by omega
      subst hjl
      have hBr : B ≤ wr.heap.size := by have := hst.g.size; omega
      rw [List.drop_of_length_le (by simp), encG] at heq
      repeat (first | refine WL.move rfl rfl ?_ | refine WL.assign rfl rfl ?_ | refine W.seq ?_ | refine W.region ?_ | refine WL.nil ?_ | refine Post.next ?_ | refine Post.tail ?_ | refine W.cond_t rfl ?_ | refine W.cond_f rfl ?_ | refine W.block ?_ | refine W.skip ?_ | refine W.exit ?_ | refine W.ret ?_ | refine Post.block_exit ?_ | refine Post.block_other rfl ?_ | refine Post.then_exit ?_ | refine Post.then_ret ?_ | refine Post.block_ret ?_ | refine Post.block_normal ?_ | refine WL.lenS (tyS rfl) rfl rfl ?_ | refine WL.lenStr und9 rfl rfl ?_ | refine WL.fieldAddr (tyF rfl) rfl rfl ?_ | refine WL.not rfl rfl ?_ | refine WL.pick_t rfl rfl rfl ?_ | refine WL.pick_f rfl rfl rfl ?_ | refine WL.want rfl rfl ?_ | refine WL.skip rfl rfl rfl rfl ?_ | refine WL.extract rfl rfl rfl ?_)
      refine WL.call _ (fnT rfl) (args2 rfl rfl) (appendRun_c wr u cs z B ho hBr (by omega) (by omega)) (by rintro e w' ⟨_, rfl, _⟩; exact ⟨_, rfl⟩) rfl ?_
      rintro v w2 ⟨u1, hv, ho2, hst2⟩
      have hv := (Ending.returned.inj hv).symm
      subst hv
      refine ⟨trivial, ?_⟩
      have hrl := runD_len z z (Nat.le_refl _)
      have hlen2 : (cs ++ runD z).length ≤ ds.length + 2 * ls.length := by simp; omega
      have hst' := hst.trans hst2
      have hci : ((k : Int) + 1) = ((k + 1 : Nat) : Int) := by omega
      repeat (first | refine WL.move rfl rfl ?_ | refine WL.assign rfl rfl ?_ | refine W.seq ?_ | refine W.region ?_ | refine WL.nil ?_ | refine Post.next ?_ | refine Post.tail ?_ | refine W.cond_t rfl ?_ | refine W.cond_f rfl ?_ | refine W.block ?_ | refine W.skip ?_ | refine W.exit ?_ | refine W.ret ?_ | refine Post.block_exit ?_ | refine Post.block_other rfl ?_ | refine Post.then_exit ?_ | refine Post.then_ret ?_ | refine Post.block_ret ?_ | refine Post.block_normal ?_ | refine WL.lenS (tyS rfl) rfl rfl ?_ | refine WL.lenStr und9 rfl rfl ?_ | refine WL.fieldAddr (tyF rfl) rfl rfl ?_ | refine WL.not rfl rfl ?_ | refine WL.pick_t rfl rfl rfl ?_ | refine WL.pick_f rfl rfl rfl ?_ | refine WL.want rfl rfl ?_ | refine WL.skip rfl rfl rfl rfl ?_ | refine WL.extract rfl rfl rfl ?_ | refine WL.addI rfl rfl (by omega) rfl ?_ | refine WL.subI rfl rfl (by omega) rfl ?_ | refine WL.indexS (tyS rfl) rfl rfl (by omega) rfl ?_ | refine WL.indexA (tyR rfl) rfl rfl (by omega) rfl ?_)
      refine WL.conv' (kd' := .u16) (tyI rfl) (tyI rfl) rfl (u16w (by omega) (by omega)) rfl ?_
      refine WL.buildSlice1 make26 rfl rfl rfl ?_
      intro wb hgb hzb hrb
      refine ⟨trivial, ?_⟩
      have hob := ownsRow_up ho2 (Up.grown hgb)
      have hBb : B ≤ wb.heap.size := by have := hst'.g.size; omega
      refine WL.appendL make26 rfl rfl hob hrb rfl (by simp [Value.oneCell']) (by omega) (by omega) hBb rfl ?_
      intro u' wc hoc hgc hlc _
      refine ⟨trivial, ?_⟩
      rw [hci] at hoc
      repeat (first | refine WL.move rfl rfl ?_ | refine WL.assign rfl rfl ?_ | refine W.seq ?_ | refine W.region ?_ | refine WL.nil ?_ | refine Post.next ?_ | refine Post.tail ?_ | refine W.cond_t rfl ?_ | refine W.cond_f rfl ?_ | refine W.block ?_ | refine W.skip ?_ | refine W.exit ?_ | refine W.ret ?_ | refine Post.block_exit ?_ | refine Post.block_other rfl ?_ | refine Post.then_exit ?_ | refine Post.then_ret ?_ | refine Post.block_ret ?_ | refine Post.block_normal ?_ | refine WL.lenS (tyS rfl) rfl rfl ?_ | refine WL.lenStr und9 rfl rfl ?_ | refine WL.fieldAddr (tyF rfl) rfl rfl ?_ | refine WL.not rfl rfl ?_ | refine WL.pick_t rfl rfl rfl ?_ | refine WL.pick_f rfl rfl rfl ?_ | refine WL.want rfl rfl ?_ | refine WL.skip rfl rfl rfl rfl ?_ | refine WL.extract rfl rfl rfl ?_)
      refine Post.ret1 rfl rfl ⟨_, rfl, ?_, hst'.app hgb hgc hlc⟩
      rw [← heq, ← List.append_assoc]
      exact own_int_snoc hoc
end Go.Lx
