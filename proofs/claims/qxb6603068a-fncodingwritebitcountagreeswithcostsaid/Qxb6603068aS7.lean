import Derived.Test.Qxb6603068aS6c
namespace Go.Lx
open Go.Proofs Go.RowKit

theorem own_ne_own {w : World} {B B' e e' k k' n n' : Nat} {v v' : Value} {xs xs' : List Value} (h : w.ownsRow B e k v n xs) (h' : w.ownsRow B' e' k' v' n' xs') (hne : e ≠ e') : v.ownBlock = none ∨ v.ownBlock ≠ v'.ownBlock := by
  rcases h.2 with ⟨rfl, _⟩ | ⟨g, cap, cur, rfl, _, hg, _⟩
  · exact .inl rfl
  · right
    intro eq
    rcases h'.2 with ⟨rfl, _⟩ | ⟨g', cap', cur', rfl, _, hg', _⟩
    · simp [Value.ownBlock] at eq
    · simp [Value.ownBlock] at eq
      subst eq
      rw [hg] at hg'
      cases hg'
      exact hne rfl
def seqC (sq : Nat → Int) : List Int := (List.range 256).map sq
theorem seqC_len (sq : Nat → Int) : (bytesC (seqC sq)).length = 256 := by simp [bytesC, seqC]
theorem seqC_get {sq : Nat → Int} {j : Nat} {v : Value} (h : (bytesC (seqC sq))[j]? = some v) : j < 256 ∧ v = .int .u8 (sq j) := by
  have hj : j < 256 := by
    have := (List.getElem?_eq_some_iff.1 h).1
    rw [seqC_len] at this; exact this
  refine ⟨hj, ?_⟩
  simp [bytesC, seqC, hj] at h
  exact h.symm
theorem seqC_at (sq : Nat → Int) {c : Nat} (h : c < 256) : (bytesC (seqC sq))[c]? = some (.int .u8 (sq c)) := by simp [bytesC, seqC, h]
theorem bytesC_one (L : List Int) : ∀ u ∈ bytesC L, u.oneCell' = true := by
  intro u hu
  obtain ⟨x, _, rfl⟩ := List.mem_map.1 hu
  rfl
theorem encG_last (used : Nat) : ∀ (rs L : List Int) (z : Nat), ∃ E, encG used rs L z = E ++ [((used + 1 : Nat) : Int)]
  | [], L, z => ⟨runD z, rfl⟩
  | r :: rs, L, z => by
    by_cases h : L.head? = some r
    · obtain ⟨E, hE⟩ := encG_last used rs L (z + 1)
      exact ⟨E, by rw [encG, if_pos h, hE]⟩
    · obtain ⟨E, hE⟩ := encG_last used rs (r :: outL r L) 0
      exact ⟨runD z ++ ((posL r L + 1 : Nat) : Int) :: E, by rw [encG, if_neg h, hE]; simp⟩
theorem encG_len (used : Nat) : ∀ (rs L : List Int) (z : Nat), (encG used rs L z).length ≤ z + 2 * rs.length + 1
  | [], L, z => by
    have := runD_len z z (Nat.le_refl _)
    simp [encG]; omega
  | r :: rs, L, z => by
    have := runD_len z z (Nat.le_refl _)
    by_cases h : L.head? = some r
    · have := encG_len used rs L (z + 1)
      rw [encG, if_pos h]; simp only [List.length_cons]; omega
    · have := encG_len used rs (r :: outL r L) 0
      rw [encG, if_neg h]; simp only [List.length_append, List.length_cons]; omega
def intsC (L : List Int) : List Value := L.map (Value.int .i64)
theorem spl_setI (L : List Int) (k : Nat) (x : Int) (h : k < L.length) : spl (intsC L) k [.int .i64 x] = intsC (L.set k x) := by
  unfold spl intsC
  rw [List.set_eq_take_append_cons_drop, if_pos h]
  simp
theorem intsC_get {L : List Int} {i : Nat} (h : i < L.length) : (intsC L)[i]? = some (.int .i64 L[i]) := by
  unfold intsC
  rw [List.getElem?_map, List.getElem?_eq_getElem h]; rfl
theorem zero53 : ZeroTy Try.prog 53 (List.replicate 256 (.int .i64 0)) := ZeroTy.of (z := .agg (List.replicate 256 (Value.int .i64 0)).toArray) (by kernel_rfl) rfl
theorem SeqV.up {w w' : World} {sv : Value} {sq : Nat → Int} (h : SeqV w sv sq) (hu : Up w w') : SeqV w' sv sq := by
  obtain ⟨bs, os, e, hc⟩ := h
  exact ⟨bs, os, e, fun c h => hu.cell (hc c h)⟩
def SeqP (w : World) (sv : Value) (sq : Nat → Int) : Prop := sv = .pointer none ∨ SeqV w sv sq
set_option maxHeartbeats 2000000 in
theorem dec_c (w : World) (v0 v1 sv : Value) (ds ls : List Int) (sq : Nat → Int) (u : Int) (h0 : IntsV .u16 w v0 ds) (h1 : IntsV .u8 w v1 ls) (hs : SeqP w sv sq) (hb : ∀ x ∈ ls, 0 ≤ x ∧ x < 256) (hq : ∀ c, c < 256 → 0 ≤ sq c ∧ sq c < 256) :
    Calls Try.prog 6 #[v0, v1, sv, .int .i64 u] w fun e w' => e = .returned (.bool true) ∧ Up w w' := by
  refine Calls.of_W (args := [v0, v1, sv, .int .i64 u]) Try.func6 rfl rfl rfl ?_
  repeat (first | refine WL.move rfl rfl ?_ | refine WL.assign rfl rfl ?_ | refine W.seq ?_ | refine W.region ?_ | refine WL.nil ?_ | refine Post.next ?_ | refine Post.tail ?_ | refine W.cond_t rfl ?_ | refine W.cond_f rfl ?_ | refine W.block ?_ | refine W.skip ?_ | refine W.exit ?_ | refine W.ret ?_ | refine Post.block_exit ?_ | refine Post.block_other rfl ?_ | refine Post.then_exit ?_ | refine Post.then_ret ?_ | refine Post.block_ret ?_ | refine Post.block_normal ?_ | refine WL.lenS (tyS rfl) rfl rfl ?_ | refine WL.lenStr und9 rfl rfl ?_ | refine WL.fieldAddr (tyF rfl) rfl rfl ?_ | refine WL.not rfl rfl ?_ | refine WL.pick_t rfl rfl rfl ?_ | refine WL.pick_f rfl rfl rfl ?_ | refine WL.want rfl rfl ?_ | refine WL.skip rfl rfl rfl rfl ?_ | refine WL.extract rfl rfl rfl ?_)
  refine WL.call _ (fnT rfl) (args4 rfl rfl rfl rfl) (zzDec_c w v0 v1 sv _ ds ls h0 h1) (by rintro e w' ⟨_, rfl, _⟩; exact ⟨_, rfl⟩) rfl ?_
  rintro v w1 ⟨r, hv, hr, rfl⟩
  cases hv
  refine ⟨trivial, ?_⟩
  cases r
  · repeat (first | refine WL.move rfl rfl ?_ | refine WL.assign rfl rfl ?_ | refine W.seq ?_ | refine W.region ?_ | refine WL.nil ?_ | refine Post.next ?_ | refine Post.tail ?_ | refine W.cond_t rfl ?_ | refine W.cond_f rfl ?_ | refine W.block ?_ | refine W.skip ?_ | refine W.exit ?_ | refine W.ret ?_ | refine Post.block_exit ?_ | refine Post.block_other rfl ?_ | refine Post.then_exit ?_ | refine Post.then_ret ?_ | refine Post.block_ret ?_ | refine Post.block_normal ?_ | refine WL.lenS (tyS rfl) rfl rfl ?_ | refine WL.lenStr und9 rfl rfl ?_ | refine WL.fieldAddr (tyF rfl) rfl rfl ?_ | refine WL.not rfl rfl ?_ | refine WL.pick_t rfl rfl rfl ?_ | refine WL.pick_f rfl rfl rfl ?_ | refine WL.want rfl rfl ?_ | refine WL.skip rfl rfl rfl rfl ?_ | refine WL.extract rfl rfl rfl ?_)
    exact Post.ret1 rfl rfl ⟨rfl, Up.refl _⟩
  obtain ⟨hld, hll⟩ := hr rfl
  clear hr
  obtain ⟨a0, c0, rfl, e0, k0⟩ := h0
  obtain ⟨a1, c1, rfl, e1, k1⟩ := h1
  repeat (first | refine WL.move rfl rfl ?_ | refine WL.assign rfl rfl ?_ | refine W.seq ?_ | refine W.region ?_ | refine WL.nil ?_ | refine Post.next ?_ | refine Post.tail ?_ | refine W.cond_t rfl ?_ | refine W.cond_f rfl ?_ | refine W.block ?_ | refine W.skip ?_ | refine W.exit ?_ | refine W.ret ?_ | refine Post.block_exit ?_ | refine Post.block_other rfl ?_ | refine Post.then_exit ?_ | refine Post.then_ret ?_ | refine Post.block_ret ?_ | refine Post.block_normal ?_ | refine WL.lenS (tyS rfl) rfl rfl ?_ | refine WL.lenStr und9 rfl rfl ?_ | refine WL.fieldAddr (tyF rfl) rfl rfl ?_ | refine WL.not rfl rfl ?_ | refine WL.pick_t rfl rfl rfl ?_ | refine WL.pick_f rfl rfl rfl ?_ | refine WL.want rfl rfl ?_ | refine WL.skip rfl rfl rfl rfl ?_ | refine WL.extract rfl rfl rfl ?_)
  refine WL.gtr rfl rfl rfl (fun hgt => ?_) (fun hd16 => ?_)
  · repeat (first | refine WL.move rfl rfl ?_ | refine WL.assign rfl rfl ?_ | refine W.seq ?_ | refine W.region ?_ | refine WL.nil ?_ | refine Post.next ?_ | refine Post.tail ?_ | refine W.cond_t rfl ?_ | refine W.cond_f rfl ?_ | refine W.block ?_ | refine W.skip ?_ | refine W.exit ?_ | refine W.ret ?_ | refine Post.block_exit ?_ | refine Post.block_other rfl ?_ | refine Post.then_exit ?_ | refine Post.then_ret ?_ | refine Post.block_ret ?_ | refine Post.block_normal ?_ | refine WL.lenS (tyS rfl) rfl rfl ?_ | refine WL.lenStr und9 rfl rfl ?_ | refine WL.fieldAddr (tyF rfl) rfl rfl ?_ | refine WL.not rfl rfl ?_ | refine WL.pick_t rfl rfl rfl ?_ | refine WL.pick_f rfl rfl rfl ?_ | refine WL.want rfl rfl ?_ | refine WL.skip rfl rfl rfl rfl ?_ | refine WL.extract rfl rfl rfl ?_)
    exact Post.ret1 rfl rfl ⟨rfl, Up.refl _⟩
  repeat (first | refine WL.move rfl rfl ?_ | refine WL.assign rfl rfl ?_ | refine W.seq ?_ | refine W.region ?_ | refine WL.nil ?_ | refine Post.next ?_ | refine Post.tail ?_ | refine W.cond_t rfl ?_ | refine W.cond_f rfl ?_ | refine W.block ?_ | refine W.skip ?_ | refine W.exit ?_ | refine W.ret ?_ | refine Post.block_exit ?_ | refine Post.block_other rfl ?_ | refine Post.then_exit ?_ | refine Post.then_ret ?_ | refine Post.block_ret ?_ | refine Post.block_normal ?_ | refine WL.lenS (tyS rfl) rfl rfl ?_ | refine WL.lenStr und9 rfl rfl ?_ | refine WL.fieldAddr (tyF rfl) rfl rfl ?_ | refine WL.not rfl rfl ?_ | refine WL.pick_t rfl rfl rfl ?_ | refine WL.pick_f rfl rfl rfl ?_ | refine WL.want rfl rfl ?_ | refine WL.skip rfl rfl rfl rfl ?_ | refine WL.extract rfl rfl rfl ?_)
  refine WL.gtr rfl rfl rfl (fun hgt => ?_) (fun hl16 => ?_)
  · repeat (first | refine WL.move rfl rfl ?_ | refine WL.assign rfl rfl ?_ | refine W.seq ?_ | refine W.region ?_ | refine WL.nil ?_ | refine Post.next ?_ | refine Post.tail ?_ | refine W.cond_t rfl ?_ | refine W.cond_f rfl ?_ | refine W.block ?_ | refine W.skip ?_ | refine W.exit ?_ | refine W.ret ?_ | refine Post.block_exit ?_ | refine Post.block_other rfl ?_ | refine Post.then_exit ?_ | refine Post.then_ret ?_ | refine Post.block_ret ?_ | refine Post.block_normal ?_ | refine WL.lenS (tyS rfl) rfl rfl ?_ | refine WL.lenStr und9 rfl rfl ?_ | refine WL.fieldAddr (tyF rfl) rfl rfl ?_ | refine WL.not rfl rfl ?_ | refine WL.pick_t rfl rfl rfl ?_ | refine WL.pick_f rfl rfl rfl ?_ | refine WL.want rfl rfl ?_ | refine WL.skip rfl rfl rfl rfl ?_ | refine WL.extract rfl rfl rfl ?_)
    exact Post.ret1 rfl rfl ⟨rfl, Up.refl _⟩
  repeat (first | refine WL.move rfl rfl ?_ | refine WL.assign rfl rfl ?_ | refine W.seq ?_ | refine W.region ?_ | refine WL.nil ?_ | refine Post.next ?_ | refine Post.tail ?_ | refine W.cond_t rfl ?_ | refine W.cond_f rfl ?_ | refine W.block ?_ | refine W.skip ?_ | refine W.exit ?_ | refine W.ret ?_ | refine Post.block_exit ?_ | refine Post.block_other rfl ?_ | refine Post.then_exit ?_ | refine Post.then_ret ?_ | refine Post.block_ret ?_ | refine Post.block_normal ?_ | refine WL.lenS (tyS rfl) rfl rfl ?_ | refine WL.lenStr und9 rfl rfl ?_ | refine WL.fieldAddr (tyF rfl) rfl rfl ?_ | refine WL.not rfl rfl ?_ | refine WL.pick_t rfl rfl rfl ?_ | refine WL.pick_f rfl rfl rfl ?_ | refine WL.want rfl rfl ?_ | refine WL.skip rfl rfl rfl rfl ?_ | refine WL.extract rfl rfl rfl ?_)
  refine WL.lss rfl rfl rfl (fun hgt => ?_) (fun hu0 => ?_)
  · repeat (first | refine WL.move rfl rfl ?_ | refine WL.assign rfl rfl ?_ | refine W.seq ?_ | refine W.region ?_ | refine WL.nil ?_ | refine Post.next ?_ | refine Post.tail ?_ | refine W.cond_t rfl ?_ | refine W.cond_f rfl ?_ | refine W.block ?_ | refine W.skip ?_ | refine W.exit ?_ | refine W.ret ?_ | refine Post.block_exit ?_ | refine Post.block_other rfl ?_ | refine Post.then_exit ?_ | refine Post.then_ret ?_ | refine Post.block_ret ?_ | refine Post.block_normal ?_ | refine WL.lenS (tyS rfl) rfl rfl ?_ | refine WL.lenStr und9 rfl rfl ?_ | refine WL.fieldAddr (tyF rfl) rfl rfl ?_ | refine WL.not rfl rfl ?_ | refine WL.pick_t rfl rfl rfl ?_ | refine WL.pick_f rfl rfl rfl ?_ | refine WL.want rfl rfl ?_ | refine WL.skip rfl rfl rfl rfl ?_ | refine WL.extract rfl rfl rfl ?_)
    exact Post.ret1 rfl rfl ⟨rfl, Up.refl _⟩
  repeat (first | refine WL.move rfl rfl ?_ | refine WL.assign rfl rfl ?_ | refine W.seq ?_ | refine W.region ?_ | refine WL.nil ?_ | refine Post.next ?_ | refine Post.tail ?_ | refine W.cond_t rfl ?_ | refine W.cond_f rfl ?_ | refine W.block ?_ | refine W.skip ?_ | refine W.exit ?_ | refine W.ret ?_ | refine Post.block_exit ?_ | refine Post.block_other rfl ?_ | refine Post.then_exit ?_ | refine Post.then_ret ?_ | refine Post.block_ret ?_ | refine Post.block_normal ?_ | refine WL.lenS (tyS rfl) rfl rfl ?_ | refine WL.lenStr und9 rfl rfl ?_ | refine WL.fieldAddr (tyF rfl) rfl rfl ?_ | refine WL.not rfl rfl ?_ | refine WL.pick_t rfl rfl rfl ?_ | refine WL.pick_f rfl rfl rfl ?_ | refine WL.want rfl rfl ?_ | refine WL.skip rfl rfl rfl rfl ?_ | refine WL.extract rfl rfl rfl ?_)
  refine WL.gtr rfl rfl rfl (fun hgt => ?_) (fun hu1 => ?_)
  · repeat (first | refine WL.move rfl rfl ?_ | refine WL.assign rfl rfl ?_ | refine W.seq ?_ | refine W.region ?_ | refine WL.nil ?_ | refine Post.next ?_ | refine Post.tail ?_ | refine W.cond_t rfl ?_ | refine W.cond_f rfl ?_ | refine W.block ?_ | refine W.skip ?_ | refine W.exit ?_ | refine W.ret ?_ | refine Post.block_exit ?_ | refine Post.block_other rfl ?_ | refine Post.then_exit ?_ | refine Post.then_ret ?_ | refine Post.block_ret ?_ | refine Post.block_normal ?_ | refine WL.lenS (tyS rfl) rfl rfl ?_ | refine WL.lenStr und9 rfl rfl ?_ | refine WL.fieldAddr (tyF rfl) rfl rfl ?_ | refine WL.not rfl rfl ?_ | refine WL.pick_t rfl rfl rfl ?_ | refine WL.pick_f rfl rfl rfl ?_ | refine WL.want rfl rfl ?_ | refine WL.skip rfl rfl rfl rfl ?_ | refine WL.extract rfl rfl rfl ?_)
    exact Post.ret1 rfl rfl ⟨rfl, Up.refl _⟩
  obtain ⟨used, rfl⟩ : ∃ n : Nat, u = (n : Int) := ⟨u.toNat, by omega⟩
  obtain ⟨sa, rfl⟩ : ∃ a, sv = .pointer a := by
    rcases hs with h | ⟨bs, os, h, _⟩
    · exact ⟨_, h⟩
    · exact ⟨_, h⟩
  repeat (first | refine WL.move rfl rfl ?_ | refine WL.assign rfl rfl ?_ | refine W.region ?_ | refine WL.nil ?_ | refine Post.next ?_ | refine Post.tail ?_ | refine W.cond_t rfl ?_ | refine W.cond_f rfl ?_ | refine W.block ?_ | refine W.skip ?_ | refine W.exit ?_ | refine W.ret ?_ | refine Post.block_exit ?_ | refine Post.block_other rfl ?_ | refine Post.then_exit ?_ | refine Post.then_ret ?_ | refine Post.block_ret ?_ | refine Post.block_normal ?_ | refine WL.lenS (tyS rfl) rfl rfl ?_ | refine WL.lenStr und9 rfl rfl ?_ | refine WL.fieldAddr (tyF rfl) rfl rfl ?_ | refine WL.not rfl rfl ?_ | refine WL.pick_t rfl rfl rfl ?_ | refine WL.pick_f rfl rfl rfl ?_ | refine WL.want rfl rfl ?_ | refine WL.skip rfl rfl rfl rfl ?_ | refine WL.extract rfl rfl rfl ?_)
  refine W.seq_join [(0, .slice a0 ds.length c0), (1, .slice a1 ls.length c1), (2, .pointer sa), (3, .int .i64 used)] (fun w' => w1 = w' ∧ (ls ≠ [] → SeqV w1 (.pointer sa) sq)) ?_ ?_
  · repeat (first | refine WL.move rfl rfl ?_ | refine WL.assign rfl rfl ?_ | refine W.seq ?_ | refine W.region ?_ | refine WL.nil ?_ | refine Post.next ?_ | refine Post.tail ?_ | refine W.cond_t rfl ?_ | refine W.cond_f rfl ?_ | refine W.block ?_ | refine W.skip ?_ | refine W.exit ?_ | refine W.ret ?_ | refine Post.block_exit ?_ | refine Post.block_other rfl ?_ | refine Post.then_exit ?_ | refine Post.then_ret ?_ | refine Post.block_ret ?_ | refine Post.block_normal ?_ | refine WL.lenS (tyS rfl) rfl rfl ?_ | refine WL.lenStr und9 rfl rfl ?_ | refine WL.fieldAddr (tyF rfl) rfl rfl ?_ | refine WL.not rfl rfl ?_ | refine WL.pick_t rfl rfl rfl ?_ | refine WL.pick_f rfl rfl rfl ?_ | refine WL.want rfl rfl ?_ | refine WL.skip rfl rfl rfl rfl ?_ | refine WL.extract rfl rfl rfl ?_)
    refine WL.gtr rfl rfl rfl (fun hpos => ?_) (fun hz => ?_)
    · repeat (first | refine WL.move rfl rfl ?_ | refine WL.assign rfl rfl ?_ | refine W.seq ?_ | refine W.region ?_ | refine WL.nil ?_ | refine Post.next ?_ | refine Post.tail ?_ | refine W.cond_t rfl ?_ | refine W.cond_f rfl ?_ | refine W.block ?_ | refine W.skip ?_ | refine W.exit ?_ | refine W.ret ?_ | refine Post.block_exit ?_ | refine Post.block_other rfl ?_ | refine Post.then_exit ?_ | refine Post.then_ret ?_ | refine Post.block_ret ?_ | refine Post.block_normal ?_ | refine WL.lenS (tyS rfl) rfl rfl ?_ | refine WL.lenStr und9 rfl rfl ?_ | refine WL.fieldAddr (tyF rfl) rfl rfl ?_ | refine WL.not rfl rfl ?_ | refine WL.pick_t rfl rfl rfl ?_ | refine WL.pick_f rfl rfl rfl ?_ | refine WL.want rfl rfl ?_ | refine WL.skip rfl rfl rfl rfl ?_ | refine WL.extract rfl rfl rfl ?_)
      refine WL.eqNilP Try.underlying50 rfl rfl ?_
      cases sa with
      | none =>
        repeat (first | refine WL.move rfl rfl ?_ | refine WL.assign rfl rfl ?_ | refine W.seq ?_ | refine W.region ?_ | refine WL.nil ?_ | refine Post.next ?_ | refine Post.tail ?_ | refine W.cond_t rfl ?_ | refine W.cond_f rfl ?_ | refine W.block ?_ | refine W.skip ?_ | refine W.exit ?_ | refine W.ret ?_ | refine Post.block_exit ?_ | refine Post.block_other rfl ?_ | refine Post.then_exit ?_ | refine Post.then_ret ?_ | refine Post.block_ret ?_ | refine Post.block_normal ?_ | refine WL.lenS (tyS rfl) rfl rfl ?_ | refine WL.lenStr und9 rfl rfl ?_ | refine WL.fieldAddr (tyF rfl) rfl rfl ?_ | refine WL.not rfl rfl ?_ | refine WL.pick_t rfl rfl rfl ?_ | refine WL.pick_f rfl rfl rfl ?_ | refine WL.want rfl rfl ?_ | refine WL.skip rfl rfl rfl rfl ?_ | refine WL.extract rfl rfl rfl ?_)
        exact Post.ret1 rfl rfl ⟨rfl, Up.refl _⟩
      | some ad =>
        repeat (first | refine WL.move rfl rfl ?_ | refine WL.assign rfl rfl ?_ | refine W.seq ?_ | refine W.region ?_ | refine WL.nil ?_ | refine Post.next ?_ | refine Post.tail ?_ | refine W.cond_t rfl ?_ | refine W.cond_f rfl ?_ | refine W.block ?_ | refine W.skip ?_ | refine W.exit ?_ | refine W.ret ?_ | refine Post.block_exit ?_ | refine Post.block_other rfl ?_ | refine Post.then_exit ?_ | refine Post.then_ret ?_ | refine Post.block_ret ?_ | refine Post.block_normal ?_ | refine WL.lenS (tyS rfl) rfl rfl ?_ | refine WL.lenStr und9 rfl rfl ?_ | refine WL.fieldAddr (tyF rfl) rfl rfl ?_ | refine WL.not rfl rfl ?_ | refine WL.pick_t rfl rfl rfl ?_ | refine WL.pick_f rfl rfl rfl ?_ | refine WL.want rfl rfl ?_ | refine WL.skip rfl rfl rfl rfl ?_ | refine WL.extract rfl rfl rfl ?_)
        exact Post.join ⟨rfl, rfl, rfl, rfl, trivial⟩ ⟨rfl, fun _ => hs.resolve_left (fun h => by cases h)⟩
    · repeat (first | refine WL.move rfl rfl ?_ | refine WL.assign rfl rfl ?_ | refine W.seq ?_ | refine W.region ?_ | refine WL.nil ?_ | refine Post.next ?_ | refine Post.tail ?_ | refine W.cond_t rfl ?_ | refine W.cond_f rfl ?_ | refine W.block ?_ | refine W.skip ?_ | refine W.exit ?_ | refine W.ret ?_ | refine Post.block_exit ?_ | refine Post.block_other rfl ?_ | refine Post.then_exit ?_ | refine Post.then_ret ?_ | refine Post.block_ret ?_ | refine Post.block_normal ?_ | refine WL.lenS (tyS rfl) rfl rfl ?_ | refine WL.lenStr und9 rfl rfl ?_ | refine WL.fieldAddr (tyF rfl) rfl rfl ?_ | refine WL.not rfl rfl ?_ | refine WL.pick_t rfl rfl rfl ?_ | refine WL.pick_f rfl rfl rfl ?_ | refine WL.want rfl rfl ?_ | refine WL.skip rfl rfl rfl rfl ?_ | refine WL.extract rfl rfl rfl ?_)
      exact Post.join ⟨rfl, rfl, rfl, rfl, trivial⟩ ⟨rfl, fun h => absurd (List.eq_nil_of_length_eq_zero (by omega)) h⟩
  rintro _ ⟨rfl, hsq⟩
  repeat (first | refine WL.move rfl rfl ?_ | refine WL.assign rfl rfl ?_ | refine W.seq ?_ | refine W.region ?_ | refine WL.nil ?_ | refine Post.next ?_ | refine Post.tail ?_ | refine W.cond_t rfl ?_ | refine W.cond_f rfl ?_ | refine W.block ?_ | refine W.skip ?_ | refine W.exit ?_ | refine W.ret ?_ | refine Post.block_exit ?_ | refine Post.block_other rfl ?_ | refine Post.then_exit ?_ | refine Post.then_ret ?_ | refine Post.block_ret ?_ | refine Post.block_normal ?_ | refine WL.lenS (tyS rfl) rfl rfl ?_ | refine WL.lenStr und9 rfl rfl ?_ | refine WL.fieldAddr (tyF rfl) rfl rfl ?_ | refine WL.not rfl rfl ?_ | refine WL.pick_t rfl rfl rfl ?_ | refine WL.pick_f rfl rfl rfl ?_ | refine WL.want rfl rfl ?_ | refine WL.skip rfl rfl rfl rfl ?_ | refine WL.extract rfl rfl rfl ?_)
  refine W.loop (fun (k : Nat) => [(0, .slice a0 ds.length c0), (1, .slice a1 ls.length c1), (2, .pointer sa), (3, .int .i64 used), (9, .int .i64 k)])
    (fun k wr => k ≤ ls.length ∧ (∀ i, (h : i < ls.length) → i < k → sq (ls[i]).toNat < used) ∧ Up w1 wr) (fun k => ls.length - k) 0 ⟨rfl, rfl, rfl, rfl, rfl, trivial⟩ ⟨by omega, by intro i _ h; omega, Up.refl _⟩ ?_
  rintro k wr ⟨hk, hrk, hu⟩
  repeat (first | refine WL.move rfl rfl ?_ | refine WL.assign rfl rfl ?_ | refine W.seq ?_ | refine W.region ?_ | refine WL.nil ?_ | refine Post.next ?_ | refine Post.tail ?_ | refine W.cond_t rfl ?_ | refine W.cond_f rfl ?_ | refine W.block ?_ | refine W.skip ?_ | refine W.exit ?_ | refine W.ret ?_ | refine Post.block_exit ?_ | refine Post.block_other rfl ?_ | refine Post.then_exit ?_ | refine Post.then_ret ?_ | refine Post.block_ret ?_ | refine Post.block_normal ?_ | refine WL.lenS (tyS rfl) rfl rfl ?_ | refine WL.lenStr und9 rfl rfl ?_ | refine WL.fieldAddr (tyF rfl) rfl rfl ?_ | refine WL.not rfl rfl ?_ | refine WL.pick_t rfl rfl rfl ?_ | refine WL.pick_f rfl rfl rfl ?_ | refine WL.want rfl rfl ?_ | refine WL.skip rfl rfl rfl rfl ?_ | refine WL.extract rfl rfl rfl ?_)
  refine WL.lss rfl rfl rfl (fun hlt => ?_) (fun hge => ?_)
  · have hk' : k < ls.length := by omega
    have hud := hu.trans (Up.drew wr)
    obtain ⟨bk, o, eq, hcell⟩ := (e1.up hud).get hk'
    cases eq
    obtain ⟨bs, os, eq, hsc⟩ := hsq (by intro e; subst e; simp at hk')
    cases eq
    obtain ⟨hb0, hb1⟩ := hb _ (List.getElem_mem hk')
    have hcc := hud.cell (hsc (ls[k]).toNat (by omega))
    obtain ⟨hq0, hq1⟩ := hq (ls[k]).toNat (by omega)
    repeat (first | refine WL.move rfl rfl ?_ | refine WL.assign rfl rfl ?_ | refine W.seq ?_ | refine W.region ?_ | refine WL.nil ?_ | refine Post.next ?_ | refine Post.tail ?_ | refine W.cond_t rfl ?_ | refine W.cond_f rfl ?_ | refine W.block ?_ | refine W.skip ?_ | refine W.exit ?_ | refine W.ret ?_ | refine Post.block_exit ?_ | refine Post.block_other rfl ?_ | refine Post.then_exit ?_ | refine Post.then_ret ?_ | refine Post.block_ret ?_ | refine Post.block_normal ?_ | refine WL.lenS (tyS rfl) rfl rfl ?_ | refine WL.lenStr und9 rfl rfl ?_ | refine WL.fieldAddr (tyF rfl) rfl rfl ?_ | refine WL.not rfl rfl ?_ | refine WL.pick_t rfl rfl rfl ?_ | refine WL.pick_f rfl rfl rfl ?_ | refine WL.want rfl rfl ?_ | refine WL.skip rfl rfl rfl rfl ?_ | refine WL.extract rfl rfl rfl ?_)
    refine W.region_q mixed (by kernel_rfl) ?_
    repeat (first | refine WL.move rfl rfl ?_ | refine WL.assign rfl rfl ?_ | refine W.seq ?_ | refine W.region ?_ | refine WL.nil ?_ | refine Post.next ?_ | refine Post.tail ?_ | refine W.cond_t rfl ?_ | refine W.cond_f rfl ?_ | refine W.block ?_ | refine W.skip ?_ | refine W.exit ?_ | refine W.ret ?_ | refine Post.block_exit ?_ | refine Post.block_other rfl ?_ | refine Post.then_exit ?_ | refine Post.then_ret ?_ | refine Post.block_ret ?_ | refine Post.block_normal ?_ | refine WL.lenS (tyS rfl) rfl rfl ?_ | refine WL.lenStr und9 rfl rfl ?_ | refine WL.fieldAddr (tyF rfl) rfl rfl ?_ | refine WL.not rfl rfl ?_ | refine WL.pick_t rfl rfl rfl ?_ | refine WL.pick_f rfl rfl rfl ?_ | refine WL.want rfl rfl ?_ | refine WL.skip rfl rfl rfl rfl ?_ | refine WL.extract rfl rfl rfl ?_ | refine WL.addI rfl rfl (by omega) rfl ?_ | refine WL.subI rfl rfl (by omega) rfl ?_ | refine WL.indexS (tyS rfl) rfl rfl (by omega) rfl ?_ | refine WL.indexA (tyR rfl) rfl rfl (by omega) rfl ?_)
    refine WL.load (o' := o + k) (tyP rfl) rfl (fun _ e => e) (hcell k hk') (by first | omega | (simp; done) | (simp; omega)) rfl ?_
    refine WL.nilCheck rfl rfl ?_
    repeat (first | refine WL.move rfl rfl ?_ | refine WL.assign rfl rfl ?_ | refine W.seq ?_ | refine W.region ?_ | refine WL.nil ?_ | refine Post.next ?_ | refine Post.tail ?_ | refine W.cond_t rfl ?_ | refine W.cond_f rfl ?_ | refine W.block ?_ | refine W.skip ?_ | refine W.exit ?_ | refine W.ret ?_ | refine Post.block_exit ?_ | refine Post.block_other rfl ?_ | refine Post.then_exit ?_ | refine Post.then_ret ?_ | refine Post.block_ret ?_ | refine Post.block_normal ?_ | refine WL.lenS (tyS rfl) rfl rfl ?_ | refine WL.lenStr und9 rfl rfl ?_ | refine WL.fieldAddr (tyF rfl) rfl rfl ?_ | refine WL.not rfl rfl ?_ | refine WL.pick_t rfl rfl rfl ?_ | refine WL.pick_f rfl rfl rfl ?_ | refine WL.want rfl rfl ?_ | refine WL.skip rfl rfl rfl rfl ?_ | refine WL.extract rfl rfl rfl ?_ | refine WL.addI rfl rfl (by omega) rfl ?_ | refine WL.subI rfl rfl (by omega) rfl ?_ | refine WL.indexS (tyS rfl) rfl rfl (by omega) rfl ?_ | refine WL.indexA (tyR rfl) rfl rfl (by omega) rfl ?_)
    refine WL.load (o' := os + (ls[k]).toNat) (tyP rfl) rfl (fun _ e => e) hcc (by first | omega | (simp; done) | (simp; omega)) rfl ?_
    refine WL.conv' (kd' := .i64) (tyI rfl) (tyI rfl) rfl (i64w (by omega) (by omega)) rfl ?_
    repeat (first | refine WL.move rfl rfl ?_ | refine WL.assign rfl rfl ?_ | refine W.seq ?_ | refine W.region ?_ | refine WL.nil ?_ | refine Post.next ?_ | refine Post.tail ?_ | refine W.cond_t rfl ?_ | refine W.cond_f rfl ?_ | refine W.block ?_ | refine W.skip ?_ | refine W.exit ?_ | refine W.ret ?_ | refine Post.block_exit ?_ | refine Post.block_other rfl ?_ | refine Post.then_exit ?_ | refine Post.then_ret ?_ | refine Post.block_ret ?_ | refine Post.block_normal ?_ | refine WL.lenS (tyS rfl) rfl rfl ?_ | refine WL.lenStr und9 rfl rfl ?_ | refine WL.fieldAddr (tyF rfl) rfl rfl ?_ | refine WL.not rfl rfl ?_ | refine WL.pick_t rfl rfl rfl ?_ | refine WL.pick_f rfl rfl rfl ?_ | refine WL.want rfl rfl ?_ | refine WL.skip rfl rfl rfl rfl ?_ | refine WL.extract rfl rfl rfl ?_)
    refine WL.geq rfl rfl rfl (fun hgt => ?_) (fun hlt2 => ?_)
    · repeat (first | refine WL.move rfl rfl ?_ | refine WL.assign rfl rfl ?_ | refine W.seq ?_ | refine W.region ?_ | refine WL.nil ?_ | refine Post.next ?_ | refine Post.tail ?_ | refine W.cond_t rfl ?_ | refine W.cond_f rfl ?_ | refine W.block ?_ | refine W.skip ?_ | refine W.exit ?_ | refine W.ret ?_ | refine Post.block_exit ?_ | refine Post.block_other rfl ?_ | refine Post.then_exit ?_ | refine Post.then_ret ?_ | refine Post.block_ret ?_ | refine Post.block_normal ?_ | refine WL.lenS (tyS rfl) rfl rfl ?_ | refine WL.lenStr und9 rfl rfl ?_ | refine WL.fieldAddr (tyF rfl) rfl rfl ?_ | refine WL.not rfl rfl ?_ | refine WL.pick_t rfl rfl rfl ?_ | refine WL.pick_f rfl rfl rfl ?_ | refine WL.want rfl rfl ?_ | refine WL.skip rfl rfl rfl rfl ?_ | refine WL.extract rfl rfl rfl ?_)
      exact Post.ret1 rfl rfl ⟨rfl, hud⟩
    · repeat (first | refine WL.move rfl rfl ?_ | refine WL.assign rfl rfl ?_ | refine W.seq ?_ | refine W.region ?_ | refine WL.nil ?_ | refine Post.next ?_ | refine Post.tail ?_ | refine W.cond_t rfl ?_ | refine W.cond_f rfl ?_ | refine W.block ?_ | refine W.skip ?_ | refine W.exit ?_ | refine W.ret ?_ | refine Post.block_exit ?_ | refine Post.block_other rfl ?_ | refine Post.then_exit ?_ | refine Post.then_ret ?_ | refine Post.block_ret ?_ | refine Post.block_normal ?_ | refine WL.lenS (tyS rfl) rfl rfl ?_ | refine WL.lenStr und9 rfl rfl ?_ | refine WL.fieldAddr (tyF rfl) rfl rfl ?_ | refine WL.not rfl rfl ?_ | refine WL.pick_t rfl rfl rfl ?_ | refine WL.pick_f rfl rfl rfl ?_ | refine WL.want rfl rfl ?_ | refine WL.skip rfl rfl rfl rfl ?_ | refine WL.extract rfl rfl rfl ?_ | refine WL.addI rfl rfl (by omega) rfl ?_ | refine WL.subI rfl rfl (by omega) rfl ?_ | refine WL.indexS (tyS rfl) rfl rfl (by omega) rfl ?_ | refine WL.indexA (tyR rfl) rfl rfl (by omega) rfl ?_)
      refine Post.round (k + 1) ⟨rfl, rfl, rfl, rfl, (by first | rfl | (simp [look]; done) | (simp [look]; omega)), trivial⟩ ⟨by omega, ?_, hud⟩ (by first | omega | (simp; done) | (simp; omega))
      intro i h hi
      by_cases e : i = k
      · subst e; omega
      · exact hrk i h (by omega)
  have hrk : ∀ x ∈ ls, 0 ≤ sq x.toNat ∧ sq x.toNat < used := fun x hx => by
    obtain ⟨i, hi, rfl⟩ := List.getElem_of_mem hx
    exact ⟨(hq _ (by have := hb _ hx; omega)).1, hrk i hi (by omega)⟩
  clear hge hk
  repeat (first | refine WL.move rfl rfl ?_ | refine WL.assign rfl rfl ?_ | refine W.seq ?_ | refine W.region ?_ | refine WL.nil ?_ | refine Post.next ?_ | refine Post.tail ?_ | refine W.cond_t rfl ?_ | refine W.cond_f rfl ?_ | refine W.block ?_ | refine W.skip ?_ | refine W.exit ?_ | refine W.ret ?_ | refine Post.block_exit ?_ | refine Post.block_other rfl ?_ | refine Post.then_exit ?_ | refine Post.then_ret ?_ | refine Post.block_ret ?_ | refine Post.block_normal ?_ | refine WL.lenS (tyS rfl) rfl rfl ?_ | refine WL.lenStr und9 rfl rfl ?_ | refine WL.fieldAddr (tyF rfl) rfl rfl ?_ | refine WL.not rfl rfl ?_ | refine WL.pick_t rfl rfl rfl ?_ | refine WL.pick_f rfl rfl rfl ?_ | refine WL.want rfl rfl ?_ | refine WL.skip rfl rfl rfl rfl ?_ | refine WL.extract rfl rfl rfl ?_)
  refine WL.call _ (fnT rfl) (args1 rfl) (cloneU_c wr _ ds ⟨a0, c0, rfl, e0.up hu, k0⟩ (by omega)) (by rintro e w' ⟨_, rfl, _⟩; exact ⟨_, rfl⟩) rfl ?_
  rintro v w2 ⟨dv, hv, hod, hu2⟩
  have hv := (Ending.returned.inj hv).symm
  subst hv
  refine ⟨trivial, ?_⟩
  repeat (first | refine WL.move rfl rfl ?_ | refine WL.assign rfl rfl ?_ | refine W.seq ?_ | refine W.region ?_ | refine WL.nil ?_ | refine Post.next ?_ | refine Post.tail ?_ | refine W.cond_t rfl ?_ | refine W.cond_f rfl ?_ | refine W.block ?_ | refine W.skip ?_ | refine W.exit ?_ | refine W.ret ?_ | refine Post.block_exit ?_ | refine Post.block_other rfl ?_ | refine Post.then_exit ?_ | refine Post.then_ret ?_ | refine Post.block_ret ?_ | refine Post.block_normal ?_ | refine WL.lenS (tyS rfl) rfl rfl ?_ | refine WL.lenStr und9 rfl rfl ?_ | refine WL.fieldAddr (tyF rfl) rfl rfl ?_ | refine WL.not rfl rfl ?_ | refine WL.pick_t rfl rfl rfl ?_ | refine WL.pick_f rfl rfl rfl ?_ | refine WL.want rfl rfl ?_ | refine WL.skip rfl rfl rfl rfl ?_ | refine WL.extract rfl rfl rfl ?_)
  refine WL.call _ (fnT rfl) (args1 rfl) (cloneB_c w2 _ ls ⟨a1, c1, rfl, e1.up (hu.trans hu2), k1⟩ (by omega)) (by rintro e w' ⟨_, rfl, _⟩; exact ⟨_, rfl⟩) rfl ?_
  rintro v w3 ⟨lv, hv, hol, hu3⟩
  have hv := (Ending.returned.inj hv).symm
  subst hv
  refine ⟨trivial, ?_⟩
  have U3 : Up w1 w3 := (hu.trans hu2).trans hu3
  repeat (first | refine WL.move rfl rfl ?_ | refine WL.assign rfl rfl ?_ | refine W.region ?_ | refine WL.nil ?_ | refine Post.next ?_ | refine Post.tail ?_ | refine W.cond_t rfl ?_ | refine W.cond_f rfl ?_ | refine W.block ?_ | refine W.skip ?_ | refine W.exit ?_ | refine W.ret ?_ | refine Post.block_exit ?_ | refine Post.block_other rfl ?_ | refine Post.then_exit ?_ | refine Post.then_ret ?_ | refine Post.block_ret ?_ | refine Post.block_normal ?_ | refine WL.lenS (tyS rfl) rfl rfl ?_ | refine WL.lenStr und9 rfl rfl ?_ | refine WL.fieldAddr (tyF rfl) rfl rfl ?_ | refine WL.not rfl rfl ?_ | refine WL.pick_t rfl rfl rfl ?_ | refine WL.pick_f rfl rfl rfl ?_ | refine WL.want rfl rfl ?_ | refine WL.skip rfl rfl rfl rfl ?_ | refine WL.extract rfl rfl rfl ?_)
  refine W.seq_joinE (fun (sv : Value) => [(0, dv), (1, lv), (2, sv), (3, .int .i64 used)]) (fun sv w' => Up w3 w' ∧ (ls ≠ [] → ∃ g, sv = .pointer (some ⟨g, 0, none⟩) ∧ w3.heap.size ≤ g ∧ Row w' g (bytesC (seqC sq)) 52)) ?_ ?_
  · repeat (first | refine WL.move rfl rfl ?_ | refine WL.assign rfl rfl ?_ | refine W.seq ?_ | refine W.region ?_ | refine WL.nil ?_ | refine Post.next ?_ | refine Post.tail ?_ | refine W.cond_t rfl ?_ | refine W.cond_f rfl ?_ | refine W.block ?_ | refine W.skip ?_ | refine W.exit ?_ | refine W.ret ?_ | refine Post.block_exit ?_ | refine Post.block_other rfl ?_ | refine Post.then_exit ?_ | refine Post.then_ret ?_ | refine Post.block_ret ?_ | refine Post.block_normal ?_ | refine WL.lenS (tyS rfl) rfl rfl ?_ | refine WL.lenStr und9 rfl rfl ?_ | refine WL.fieldAddr (tyF rfl) rfl rfl ?_ | refine WL.not rfl rfl ?_ | refine WL.pick_t rfl rfl rfl ?_ | refine WL.pick_f rfl rfl rfl ?_ | refine WL.want rfl rfl ?_ | refine WL.skip rfl rfl rfl rfl ?_ | refine WL.extract rfl rfl rfl ?_)
    refine WL.neqNilP Try.underlying50 rfl rfl ?_
    cases sa with
    | none =>
      repeat (first | refine WL.move rfl rfl ?_ | refine WL.assign rfl rfl ?_ | refine W.seq ?_ | refine W.region ?_ | refine WL.nil ?_ | refine Post.next ?_ | refine Post.tail ?_ | refine W.cond_t rfl ?_ | refine W.cond_f rfl ?_ | refine W.block ?_ | refine W.skip ?_ | refine W.exit ?_ | refine W.ret ?_ | refine Post.block_exit ?_ | refine Post.block_other rfl ?_ | refine Post.then_exit ?_ | refine Post.then_ret ?_ | refine Post.block_ret ?_ | refine Post.block_normal ?_ | refine WL.lenS (tyS rfl) rfl rfl ?_ | refine WL.lenStr und9 rfl rfl ?_ | refine WL.fieldAddr (tyF rfl) rfl rfl ?_ | refine WL.not rfl rfl ?_ | refine WL.pick_t rfl rfl rfl ?_ | refine WL.pick_f rfl rfl rfl ?_ | refine WL.want rfl rfl ?_ | refine WL.skip rfl rfl rfl rfl ?_ | refine WL.extract rfl rfl rfl ?_)
      refine Post.joinE (.pointer none) ⟨rfl, rfl, rfl, rfl, trivial⟩ ⟨Up.refl _, fun h => ?_⟩
      obtain ⟨bs, os, e, _⟩ := hsq h
      cases e
    | some ad =>
      obtain ⟨bs, os, e, hsc⟩ := hs.resolve_left (fun h => by cases h)
      cases e
      repeat (first | refine WL.move rfl rfl ?_ | refine WL.assign rfl rfl ?_ | refine W.seq ?_ | refine W.region ?_ | refine WL.nil ?_ | refine Post.next ?_ | refine Post.tail ?_ | refine W.cond_t rfl ?_ | refine W.cond_f rfl ?_ | refine W.block ?_ | refine W.skip ?_ | refine W.exit ?_ | refine W.ret ?_ | refine Post.block_exit ?_ | refine Post.block_other rfl ?_ | refine Post.then_exit ?_ | refine Post.then_ret ?_ | refine Post.block_ret ?_ | refine Post.block_normal ?_ | refine WL.lenS (tyS rfl) rfl rfl ?_ | refine WL.lenStr und9 rfl rfl ?_ | refine WL.fieldAddr (tyF rfl) rfl rfl ?_ | refine WL.not rfl rfl ?_ | refine WL.pick_t rfl rfl rfl ?_ | refine WL.pick_f rfl rfl rfl ?_ | refine WL.want rfl rfl ?_ | refine WL.skip rfl rfl rfl rfl ?_ | refine WL.extract rfl rfl rfl ?_)
      refine WL.nilCheck rfl rfl ?_
      refine WL.loadAgg (cs := bytesC (seqC sq)) (o' := os) (tyA rfl) rfl (seqC_len sq) (fun _ e => e) (fun j v hj => by obtain ⟨h1, rfl⟩ := seqC_get hj; exact U3.cell (hsc j h1)) (by first | omega | (simp; done) | (simp; omega)) rfl ?_
      refine WL.alloc zero52 rfl ?_
      intro w4 hg4 hz4 hr4
      refine ⟨trivial, ?_⟩
      refine WL.storeAgg (vs := bytesC (seqC sq)) (o' := 0) (tyA rfl) rfl rfl (seqC_len sq) (bytesC_one _) hr4 rfl (by rw [seqC_len, List.length_replicate]; exact Nat.le_refl _) ?_
      intro w5 hg5 hz5 hr5
      refine ⟨trivial, ?_⟩
      have he : spl (List.replicate 256 (Value.int .u8 0)) 0 (bytesC (seqC sq)) = bytesC (seqC sq) := by
        unfold spl
        rw [seqC_len, List.take_zero, List.nil_append, List.drop_of_length_le (by rw [List.length_replicate]; exact Nat.le_refl _), List.append_nil]
      rw [he] at hr5
      repeat (first | refine WL.move rfl rfl ?_ | refine WL.assign rfl rfl ?_ | refine W.seq ?_ | refine W.region ?_ | refine WL.nil ?_ | refine Post.next ?_ | refine Post.tail ?_ | refine W.cond_t rfl ?_ | refine W.cond_f rfl ?_ | refine W.block ?_ | refine W.skip ?_ | refine W.exit ?_ | refine W.ret ?_ | refine Post.block_exit ?_ | refine Post.block_other rfl ?_ | refine Post.then_exit ?_ | refine Post.then_ret ?_ | refine Post.block_ret ?_ | refine Post.block_normal ?_ | refine WL.lenS (tyS rfl) rfl rfl ?_ | refine WL.lenStr und9 rfl rfl ?_ | refine WL.fieldAddr (tyF rfl) rfl rfl ?_ | refine WL.not rfl rfl ?_ | refine WL.pick_t rfl rfl rfl ?_ | refine WL.pick_f rfl rfl rfl ?_ | refine WL.want rfl rfl ?_ | refine WL.skip rfl rfl rfl rfl ?_ | refine WL.extract rfl rfl rfl ?_)
      exact Post.joinE (.pointer (some ⟨w3.heap.size, 0, none⟩)) ⟨rfl, rfl, rfl, rfl, trivial⟩ ⟨(Up.grown hg4).step hg5 (by intro j hj; cases hj; exact Nat.le_refl _), fun _ => ⟨_, rfl, Nat.le_refl _, hr5⟩⟩
  rintro sv w4 ⟨hu4, hsr⟩
  have hod4 := ownsRow_up hod (hu3.trans hu4)
  repeat (first | refine WL.move rfl rfl ?_ | refine WL.assign rfl rfl ?_ | refine W.seq ?_ | refine W.region ?_ | refine WL.nil ?_ | refine Post.next ?_ | refine Post.tail ?_ | refine W.cond_t rfl ?_ | refine W.cond_f rfl ?_ | refine W.block ?_ | refine W.skip ?_ | refine W.exit ?_ | refine W.ret ?_ | refine Post.block_exit ?_ | refine Post.block_other rfl ?_ | refine Post.then_exit ?_ | refine Post.then_ret ?_ | refine Post.block_ret ?_ | refine Post.block_normal ?_ | refine WL.lenS (tyS rfl) rfl rfl ?_ | refine WL.lenStr und9 rfl rfl ?_ | refine WL.fieldAddr (tyF rfl) rfl rfl ?_ | refine WL.not rfl rfl ?_ | refine WL.pick_t rfl rfl rfl ?_ | refine WL.pick_f rfl rfl rfl ?_ | refine WL.want rfl rfl ?_ | refine WL.skip rfl rfl rfl rfl ?_ | refine WL.extract rfl rfl rfl ?_)
  refine WL.call _ (fnT rfl) (args1 rfl) (cloneU_c w4 _ ds (IntsV_own hod4) (by omega)) (by rintro e w' ⟨_, rfl, _⟩; exact ⟨_, rfl⟩) rfl ?_
  rintro v w5 ⟨pv, hv, hop, hu5⟩
  have hv := (Ending.returned.inj hv).symm
  subst hv
  refine ⟨trivial, ?_⟩
  have hod5 := ownsRow_up hod4 hu5
  have hol5 := ownsRow_up hol (hu4.trans hu5)
  have U5 : Up w1 w5 := (U3.trans hu4).trans hu5
  have s2 := hu2.size
  have s3 := hu3.size
  have s4 := hu4.size
  have s5 := hu5.size
  have s0 := hu.size
  have hread : ∀ w', w5.grownBy w' dv.ownBlock → IntsV .u8 w' lv ls ∧ (ls ≠ [] → SeqV w' sv sq) := by
    intro w' hg
    refine ⟨IntsV_own (hol5.kept hg (own_ne_own hol5 hod5 (by decide))), fun h => ?_⟩
    obtain ⟨g, rfl, _, hrow⟩ := hsr h
    have hrow' := (hrow.up hu5).kept hg (own_ne_row hod5 (hrow.up hu5) (by decide))
    exact ⟨g, 0, rfl, fun c hc => by rw [Nat.zero_add]; exact hrow'.cell (seqC_at sq hc)⟩
  repeat (first | refine WL.move rfl rfl ?_ | refine WL.assign rfl rfl ?_ | refine W.seq ?_ | refine W.region ?_ | refine WL.nil ?_ | refine Post.next ?_ | refine Post.tail ?_ | refine W.cond_t rfl ?_ | refine W.cond_f rfl ?_ | refine W.block ?_ | refine W.skip ?_ | refine W.exit ?_ | refine W.ret ?_ | refine Post.block_exit ?_ | refine Post.block_other rfl ?_ | refine Post.then_exit ?_ | refine Post.then_ret ?_ | refine Post.block_ret ?_ | refine Post.block_normal ?_ | refine WL.lenS (tyS rfl) rfl rfl ?_ | refine WL.lenStr und9 rfl rfl ?_ | refine WL.fieldAddr (tyF rfl) rfl rfl ?_ | refine WL.not rfl rfl ?_ | refine WL.pick_t rfl rfl rfl ?_ | refine WL.pick_f rfl rfl rfl ?_ | refine WL.want rfl rfl ?_ | refine WL.skip rfl rfl rfl rfl ?_ | refine WL.extract rfl rfl rfl ?_)
  refine WL.call _ (fnT rfl) (args4 rfl rfl rfl rfl) (zzMtf_c w5 dv lv sv ds ls sq used wr.heap.size hod5 (by omega) hread (by omega) hb hrk (by omega) (by omega)) (by rintro e w' ⟨_, rfl, _⟩; exact ⟨_, rfl⟩) rfl ?_
  rintro v w6 ⟨gv, hv, hog, hst⟩
  have hv := (Ending.returned.inj hv).symm
  subst hv
  refine ⟨trivial, ?_⟩
  have U6 : Up w1 w6 := U5.step hst.g (fun k hk => by have := (hod.lt k hk).1; omega)
  have hop6 : w6.ownsRow w4.heap.size 42 1 pv ds.length (ds.map (Value.int .u16)) := hop.kept hst.g (by
    cases hpb : pv.ownBlock with
    | none => exact .inl rfl
    | some g =>
      right
      intro e
      have h1 := (hop.lt g hpb).1
      have h2 := (hod.lt g e.symm).2
      omega)
  obtain ⟨hlr, hsr6⟩ := hread w6 hst.g
  obtain ⟨E, hE⟩ := encG_last used (ls.map fun x => sq x.toNat) (list0 used) 0
  have hElen : (encG used (ls.map fun x => sq x.toNat) (list0 used) 0).length = E.length + 1 := by rw [hE]; simp
  obtain ⟨ag, cg, rfl, hgs, hgc⟩ := IntsV_own hog
  obtain ⟨ap, cp, rfl, hps, hpc⟩ := IntsV_own hop6
  obtain ⟨al, cl, rfl, hls, hlc⟩ := hlr
  have hgl : (ds ++ encG used (ls.map fun x => sq x.toNat) (list0 used) 0).length = ds.length + E.length + 1 := by rw [List.length_append, hElen]; omega
  have hEl := encG_len used (ls.map fun x => sq x.toNat) (list0 used) 0
  rw [hElen, List.length_map] at hEl
  generalize hG : encG used (ls.map fun x => sq x.toNat) (list0 used) 0 = G at *
  rw [hgl]
  have hgcell : ∀ i, (hi : i < ds.length + E.length + 1) → ∃ bk o, ag = some ⟨bk, o, none⟩ ∧ w6.cell? ⟨bk, o + i, none⟩ = some (.int .u16 ((ds ++ G)[i]'(by omega))) := by
    intro i hi
    obtain ⟨bk, o, e, hc⟩ := hgs.get (j := i) (by omega)
    exact ⟨bk, o, e, hc i (by omega)⟩
  obtain ⟨bg, og, rfl, _⟩ := hgcell 0 (by omega)
  have hgc6 : ∀ i, (hi : i < ds.length + E.length + 1) → w6.cell? ⟨bg, og + i, none⟩ = some (.int .u16 ((ds ++ G)[i]'(by omega))) := by
    intro i hi
    obtain ⟨bk, o, e, hc⟩ := hgcell i hi
    cases e
    exact hc
  repeat (first | refine WL.move rfl rfl ?_ | refine WL.assign rfl rfl ?_ | refine W.seq ?_ | refine W.region ?_ | refine WL.nil ?_ | refine Post.next ?_ | refine Post.tail ?_ | refine W.cond_t rfl ?_ | refine W.cond_f rfl ?_ | refine W.block ?_ | refine W.skip ?_ | refine W.exit ?_ | refine W.ret ?_ | refine Post.block_exit ?_ | refine Post.block_other rfl ?_ | refine Post.then_exit ?_ | refine Post.then_ret ?_ | refine Post.block_ret ?_ | refine Post.block_normal ?_ | refine WL.lenS (tyS rfl) rfl rfl ?_ | refine WL.lenStr und9 rfl rfl ?_ | refine WL.fieldAddr (tyF rfl) rfl rfl ?_ | refine WL.not rfl rfl ?_ | refine WL.pick_t rfl rfl rfl ?_ | refine WL.pick_f rfl rfl rfl ?_ | refine WL.want rfl rfl ?_ | refine WL.skip rfl rfl rfl rfl ?_ | refine WL.extract rfl rfl rfl ?_ | refine WL.addI rfl rfl (by omega) rfl ?_ | refine WL.subI rfl rfl (by omega) rfl ?_ | refine WL.indexS (tyS rfl) rfl rfl (by omega) rfl ?_ | refine WL.indexA (tyR rfl) rfl rfl (by omega) rfl ?_ | (first | refine WL.lss_t rfl rfl (by omega) rfl ?_ | refine WL.lss_f rfl rfl (by omega) rfl ?_ | refine WL.gtr_t rfl rfl (by omega) rfl ?_ | refine WL.gtr_f rfl rfl (by omega) rfl ?_ | refine WL.eqI_t rfl rfl (by omega) rfl ?_ | refine WL.eqI_f rfl rfl (by omega) rfl ?_ | refine WL.neqI_t rfl rfl (by omega) rfl ?_ | refine WL.neqI_f rfl rfl (by omega) rfl ?_ | refine WL.leq_t rfl rfl (by omega) rfl ?_ | refine WL.leq_f rfl rfl (by omega) rfl ?_ | refine WL.geq_t rfl rfl (by omega) rfl ?_ | refine WL.geq_f rfl rfl (by omega) rfl ?_))
  -- dst stands in front
  refine W.loop (fun (k : Nat) => [(1, .slice al ls.length cl), (2, sv), (3, .int .i64 used), (11, .slice ap ds.length cp), (12, .slice (some ⟨bg, og, none⟩) (ds.length + E.length + 1) cg), (13, .int .i64 k)])
    (fun k wx => k ≤ ds.length ∧ Up w6 wx) (fun k => ds.length - k) 0 ⟨rfl, rfl, rfl, rfl, rfl, rfl, trivial⟩ ⟨by omega, Up.refl _⟩ ?_
  rintro i wx ⟨hi, hux⟩
  repeat (first | refine WL.move rfl rfl ?_ | refine WL.assign rfl rfl ?_ | refine W.seq ?_ | refine W.region ?_ | refine WL.nil ?_ | refine Post.next ?_ | refine Post.tail ?_ | refine W.cond_t rfl ?_ | refine W.cond_f rfl ?_ | refine W.block ?_ | refine W.skip ?_ | refine W.exit ?_ | refine W.ret ?_ | refine Post.block_exit ?_ | refine Post.block_other rfl ?_ | refine Post.then_exit ?_ | refine Post.then_ret ?_ | refine Post.block_ret ?_ | refine Post.block_normal ?_ | refine WL.lenS (tyS rfl) rfl rfl ?_ | refine WL.lenStr und9 rfl rfl ?_ | refine WL.fieldAddr (tyF rfl) rfl rfl ?_ | refine WL.not rfl rfl ?_ | refine WL.pick_t rfl rfl rfl ?_ | refine WL.pick_f rfl rfl rfl ?_ | refine WL.want rfl rfl ?_ | refine WL.skip rfl rfl rfl rfl ?_ | refine WL.extract rfl rfl rfl ?_)
  refine WL.lss rfl rfl rfl (fun hlt => ?_) (fun hge => ?_)
  · have hi' : i < ds.length := by omega
    have hud := hux.trans (Up.drew wx)
    obtain ⟨bk, o, eq, hcell⟩ := (hps.up hud).get hi'
    cases eq
    have hg1 := hud.cell (hgc6 i (by omega))
    rw [List.getElem_append_left hi'] at hg1
    repeat (first | refine WL.move rfl rfl ?_ | refine WL.assign rfl rfl ?_ | refine W.seq ?_ | refine W.region ?_ | refine WL.nil ?_ | refine Post.next ?_ | refine Post.tail ?_ | refine W.cond_t rfl ?_ | refine W.cond_f rfl ?_ | refine W.block ?_ | refine W.skip ?_ | refine W.exit ?_ | refine W.ret ?_ | refine Post.block_exit ?_ | refine Post.block_other rfl ?_ | refine Post.then_exit ?_ | refine Post.then_ret ?_ | refine Post.block_ret ?_ | refine Post.block_normal ?_ | refine WL.lenS (tyS rfl) rfl rfl ?_ | refine WL.lenStr und9 rfl rfl ?_ | refine WL.fieldAddr (tyF rfl) rfl rfl ?_ | refine WL.not rfl rfl ?_ | refine WL.pick_t rfl rfl rfl ?_ | refine WL.pick_f rfl rfl rfl ?_ | refine WL.want rfl rfl ?_ | refine WL.skip rfl rfl rfl rfl ?_ | refine WL.extract rfl rfl rfl ?_)
    refine W.region_q mixed (by kernel_rfl) ?_
    repeat (first | refine WL.move rfl rfl ?_ | refine WL.assign rfl rfl ?_ | refine W.seq ?_ | refine W.region ?_ | refine WL.nil ?_ | refine Post.next ?_ | refine Post.tail ?_ | refine W.cond_t rfl ?_ | refine W.cond_f rfl ?_ | refine W.block ?_ | refine W.skip ?_ | refine W.exit ?_ | refine W.ret ?_ | refine Post.block_exit ?_ | refine Post.block_other rfl ?_ | refine Post.then_exit ?_ | refine Post.then_ret ?_ | refine Post.block_ret ?_ | refine Post.block_normal ?_ | refine WL.lenS (tyS rfl) rfl rfl ?_ | refine WL.lenStr und9 rfl rfl ?_ | refine WL.fieldAddr (tyF rfl) rfl rfl ?_ | refine WL.not rfl rfl ?_ | refine WL.pick_t rfl rfl rfl ?_ | refine WL.pick_f rfl rfl rfl ?_ | refine WL.want rfl rfl ?_ | refine WL.skip rfl rfl rfl rfl ?_ | refine WL.extract rfl rfl rfl ?_ | refine WL.addI rfl rfl (by omega) rfl ?_ | refine WL.subI rfl rfl (by omega) rfl ?_ | refine WL.indexS (tyS rfl) rfl rfl (by omega) rfl ?_ | refine WL.indexA (tyR rfl) rfl rfl (by omega) rfl ?_)
    refine WL.load (o' := og + i) (tyP rfl) rfl (fun _ e => e) hg1 (by first | omega | (simp; done) | (simp; omega)) rfl ?_
    repeat (first | refine WL.move rfl rfl ?_ | refine WL.assign rfl rfl ?_ | refine W.seq ?_ | refine W.region ?_ | refine WL.nil ?_ | refine Post.next ?_ | refine Post.tail ?_ | refine W.cond_t rfl ?_ | refine W.cond_f rfl ?_ | refine W.block ?_ | refine W.skip ?_ | refine W.exit ?_ | refine W.ret ?_ | refine Post.block_exit ?_ | refine Post.block_other rfl ?_ | refine Post.then_exit ?_ | refine Post.then_ret ?_ | refine Post.block_ret ?_ | refine Post.block_normal ?_ | refine WL.lenS (tyS rfl) rfl rfl ?_ | refine WL.lenStr und9 rfl rfl ?_ | refine WL.fieldAddr (tyF rfl) rfl rfl ?_ | refine WL.not rfl rfl ?_ | refine WL.pick_t rfl rfl rfl ?_ | refine WL.pick_f rfl rfl rfl ?_ | refine WL.want rfl rfl ?_ | refine WL.skip rfl rfl rfl rfl ?_ | refine WL.extract rfl rfl rfl ?_ | refine WL.addI rfl rfl (by omega) rfl ?_ | refine WL.subI rfl rfl (by omega) rfl ?_ | refine WL.indexS (tyS rfl) rfl rfl (by omega) rfl ?_ | refine WL.indexA (tyR rfl) rfl rfl (by omega) rfl ?_)
    refine WL.load (o' := o + i) (tyP rfl) rfl (fun _ e => e) (hcell i hi') (by first | omega | (simp; done) | (simp; omega)) rfl ?_
    repeat (first | refine WL.move rfl rfl ?_ | refine WL.assign rfl rfl ?_ | refine W.seq ?_ | refine W.region ?_ | refine WL.nil ?_ | refine Post.next ?_ | refine Post.tail ?_ | refine W.cond_t rfl ?_ | refine W.cond_f rfl ?_ | refine W.block ?_ | refine W.skip ?_ | refine W.exit ?_ | refine W.ret ?_ | refine Post.block_exit ?_ | refine Post.block_other rfl ?_ | refine Post.then_exit ?_ | refine Post.then_ret ?_ | refine Post.block_ret ?_ | refine Post.block_normal ?_ | refine WL.lenS (tyS rfl) rfl rfl ?_ | refine WL.lenStr und9 rfl rfl ?_ | refine WL.fieldAddr (tyF rfl) rfl rfl ?_ | refine WL.not rfl rfl ?_ | refine WL.pick_t rfl rfl rfl ?_ | refine WL.pick_f rfl rfl rfl ?_ | refine WL.want rfl rfl ?_ | refine WL.skip rfl rfl rfl rfl ?_ | refine WL.extract rfl rfl rfl ?_ | refine WL.addI rfl rfl (by omega) rfl ?_ | refine WL.subI rfl rfl (by omega) rfl ?_ | refine WL.indexS (tyS rfl) rfl rfl (by omega) rfl ?_ | refine WL.indexA (tyR rfl) rfl rfl (by omega) rfl ?_ | (first | refine WL.lss_t rfl rfl (by omega) rfl ?_ | refine WL.lss_f rfl rfl (by omega) rfl ?_ | refine WL.gtr_t rfl rfl (by omega) rfl ?_ | refine WL.gtr_f rfl rfl (by omega) rfl ?_ | refine WL.eqI_t rfl rfl (by omega) rfl ?_ | refine WL.eqI_f rfl rfl (by omega) rfl ?_ | refine WL.neqI_t rfl rfl (by omega) rfl ?_ | refine WL.neqI_f rfl rfl (by omega) rfl ?_ | refine WL.leq_t rfl rfl (by omega) rfl ?_ | refine WL.leq_f rfl rfl (by omega) rfl ?_ | refine WL.geq_t rfl rfl (by omega) rfl ?_ | refine WL.geq_f rfl rfl (by omega) rfl ?_))
    exact Post.round (i + 1) ⟨rfl, rfl, rfl, rfl, rfl, (by first | rfl | (simp [look]; done) | (simp [look]; omega)), trivial⟩ ⟨by omega, hud⟩ (by omega)
  repeat (first | refine WL.move rfl rfl ?_ | refine WL.assign rfl rfl ?_ | refine W.seq ?_ | refine W.region ?_ | refine WL.nil ?_ | refine Post.next ?_ | refine Post.tail ?_ | refine W.cond_t rfl ?_ | refine W.cond_f rfl ?_ | refine W.block ?_ | refine W.skip ?_ | refine W.exit ?_ | refine W.ret ?_ | refine Post.block_exit ?_ | refine Post.block_other rfl ?_ | refine Post.then_exit ?_ | refine Post.then_ret ?_ | refine Post.block_ret ?_ | refine Post.block_normal ?_ | refine WL.lenS (tyS rfl) rfl rfl ?_ | refine WL.lenStr und9 rfl rfl ?_ | refine WL.fieldAddr (tyF rfl) rfl rfl ?_ | refine WL.not rfl rfl ?_ | refine WL.pick_t rfl rfl rfl ?_ | refine WL.pick_f rfl rfl rfl ?_ | refine WL.want rfl rfl ?_ | refine WL.skip rfl rfl rfl rfl ?_ | refine WL.extract rfl rfl rfl ?_)
  have hcg : ds.length + E.length + 1 ≤ cg := by rw [hgl] at hgc; exact hgc
  refine WL.sliceL (tyS rfl) rfl rfl (by omega) rfl ?_
  have hsl1 : (if cg = ((ds.length : Int)).toNat then og else og + ((ds.length : Int)).toNat * 1) = og + ds.length := by
    rw [if_neg (by omega)]; simp
  have hsl2 : ds.length + E.length + 1 - ((ds.length : Int)).toNat = E.length + 1 := by omega
  rw [hsl1, hsl2]
  have hcx : ∀ i, (hi : i < E.length + 1) → wx.cell? ⟨bg, og + ds.length + i, none⟩ = some (.int .u16 (G[i]'(by rw [hElen]; exact hi))) := by
    intro i hi
    have := hux.cell (hgc6 (ds.length + i) (by omega))
    rw [List.getElem_append_right (by omega)] at this
    rw [Nat.add_assoc]
    simpa using this
  have hlast : G[E.length]'(by omega) = ((used + 1 : Nat) : Int) := by
    simp only [hE]
    rw [List.getElem_append_right (by omega)]
    simp
  repeat (first | refine WL.move rfl rfl ?_ | refine WL.assign rfl rfl ?_ | refine W.seq ?_ | refine W.region ?_ | refine WL.nil ?_ | refine Post.next ?_ | refine Post.tail ?_ | refine W.cond_t rfl ?_ | refine W.cond_f rfl ?_ | refine W.block ?_ | refine W.skip ?_ | refine W.exit ?_ | refine W.ret ?_ | refine Post.block_exit ?_ | refine Post.block_other rfl ?_ | refine Post.then_exit ?_ | refine Post.then_ret ?_ | refine Post.block_ret ?_ | refine Post.block_normal ?_ | refine WL.lenS (tyS rfl) rfl rfl ?_ | refine WL.lenStr und9 rfl rfl ?_ | refine WL.fieldAddr (tyF rfl) rfl rfl ?_ | refine WL.not rfl rfl ?_ | refine WL.pick_t rfl rfl rfl ?_ | refine WL.pick_f rfl rfl rfl ?_ | refine WL.want rfl rfl ?_ | refine WL.skip rfl rfl rfl rfl ?_ | refine WL.extract rfl rfl rfl ?_ | refine WL.addI rfl rfl (by omega) rfl ?_ | refine WL.subI rfl rfl (by omega) rfl ?_ | refine WL.indexS (tyS rfl) rfl rfl (by omega) rfl ?_ | refine WL.indexA (tyR rfl) rfl rfl (by omega) rfl ?_)
  refine WL.load (o' := og + ds.length + E.length) (tyP rfl) rfl (fun _ e => e) (hcx E.length (by omega)) (by first | omega | (simp; done) | (simp; omega)) rfl ?_
  rw [hlast]
  refine WL.conv' (kd' := .i64) (tyI rfl) (tyI rfl) rfl (i64w (by omega) (by omega)) rfl ?_
  repeat (first | refine WL.move rfl rfl ?_ | refine WL.assign rfl rfl ?_ | refine W.seq ?_ | refine W.region ?_ | refine WL.nil ?_ | refine Post.next ?_ | refine Post.tail ?_ | refine W.cond_t rfl ?_ | refine W.cond_f rfl ?_ | refine W.block ?_ | refine W.skip ?_ | refine W.exit ?_ | refine W.ret ?_ | refine Post.block_exit ?_ | refine Post.block_other rfl ?_ | refine Post.then_exit ?_ | refine Post.then_ret ?_ | refine Post.block_ret ?_ | refine Post.block_normal ?_ | refine WL.lenS (tyS rfl) rfl rfl ?_ | refine WL.lenStr und9 rfl rfl ?_ | refine WL.fieldAddr (tyF rfl) rfl rfl ?_ | refine WL.not rfl rfl ?_ | refine WL.pick_t rfl rfl rfl ?_ | refine WL.pick_f rfl rfl rfl ?_ | refine WL.want rfl rfl ?_ | refine WL.skip rfl rfl rfl rfl ?_ | refine WL.extract rfl rfl rfl ?_ | refine WL.addI rfl rfl (by omega) rfl ?_ | refine WL.subI rfl rfl (by omega) rfl ?_ | refine WL.indexS (tyS rfl) rfl rfl (by omega) rfl ?_ | refine WL.indexA (tyR rfl) rfl rfl (by omega) rfl ?_ | (first | refine WL.lss_t rfl rfl (by omega) rfl ?_ | refine WL.lss_f rfl rfl (by omega) rfl ?_ | refine WL.gtr_t rfl rfl (by omega) rfl ?_ | refine WL.gtr_f rfl rfl (by omega) rfl ?_ | refine WL.eqI_t rfl rfl (by omega) rfl ?_ | refine WL.eqI_f rfl rfl (by omega) rfl ?_ | refine WL.neqI_t rfl rfl (by omega) rfl ?_ | refine WL.neqI_f rfl rfl (by omega) rfl ?_ | refine WL.leq_t rfl rfl (by omega) rfl ?_ | refine WL.leq_f rfl rfl (by omega) rfl ?_ | refine WL.geq_t rfl rfl (by omega) rfl ?_ | refine WL.geq_f rfl rfl (by omega) rfl ?_))
  refine WL.alloc zero53 rfl ?_
  intro wa hga hza hra
  refine ⟨trivial, ?_⟩
  have hua : Up w6 wa := hux.trans (Up.grown hga)
  have hra' : Row wa wx.heap.size (intsC (List.replicate 256 0)) 53 := by unfold intsC; rw [List.map_replicate]; exact hra
  have hg6 : w6.heap.size ≤ wx.heap.size := hux.size
  generalize hgd : wx.heap.size = g at *
  repeat (first | refine WL.move rfl rfl ?_ | refine WL.assign rfl rfl ?_ | refine W.seq ?_ | refine W.region ?_ | refine WL.nil ?_ | refine Post.next ?_ | refine Post.tail ?_ | refine W.cond_t rfl ?_ | refine W.cond_f rfl ?_ | refine W.block ?_ | refine W.skip ?_ | refine W.exit ?_ | refine W.ret ?_ | refine Post.block_exit ?_ | refine Post.block_other rfl ?_ | refine Post.then_exit ?_ | refine Post.then_ret ?_ | refine Post.block_ret ?_ | refine Post.block_normal ?_ | refine WL.lenS (tyS rfl) rfl rfl ?_ | refine WL.lenStr und9 rfl rfl ?_ | refine WL.fieldAddr (tyF rfl) rfl rfl ?_ | refine WL.not rfl rfl ?_ | refine WL.pick_t rfl rfl rfl ?_ | refine WL.pick_f rfl rfl rfl ?_ | refine WL.want rfl rfl ?_ | refine WL.skip rfl rfl rfl rfl ?_ | refine WL.extract rfl rfl rfl ?_)
  -- the decoder's list, as it starts
  refine W.loop2 (fun (k : Nat) (_ : List Int) => [(1, .slice al ls.length cl), (2, sv), (3, .int .i64 used), (14, .slice (some ⟨bg, og + ds.length, none⟩) (E.length + 1) (cg - ((ds.length : Int)).toNat)), (15, .pointer (some ⟨g, 0, none⟩)), (16, .int .i64 k)])
    (fun k L wy => k ≤ used ∧ L.length = 256 ∧ L = iotaL k ++ List.replicate (256 - k) 0 ∧ Row wy g (intsC L) 53 ∧ Up w6 wy) (fun k _ => used - k) 0 (List.replicate 256 0) ⟨rfl, rfl, rfl, rfl, rfl, rfl, trivial⟩ ⟨by omega, List.length_replicate, rfl, hra', hua⟩ ?_
  rintro k L wy ⟨hk, hL, hLe, hrow, huy⟩
  repeat (first | refine WL.move rfl rfl ?_ | refine WL.assign rfl rfl ?_ | refine W.seq ?_ | refine W.region ?_ | refine WL.nil ?_ | refine Post.next ?_ | refine Post.tail ?_ | refine W.cond_t rfl ?_ | refine W.cond_f rfl ?_ | refine W.block ?_ | refine W.skip ?_ | refine W.exit ?_ | refine W.ret ?_ | refine Post.block_exit ?_ | refine Post.block_other rfl ?_ | refine Post.then_exit ?_ | refine Post.then_ret ?_ | refine Post.block_ret ?_ | refine Post.block_normal ?_ | refine WL.lenS (tyS rfl) rfl rfl ?_ | refine WL.lenStr und9 rfl rfl ?_ | refine WL.fieldAddr (tyF rfl) rfl rfl ?_ | refine WL.not rfl rfl ?_ | refine WL.pick_t rfl rfl rfl ?_ | refine WL.pick_f rfl rfl rfl ?_ | refine WL.want rfl rfl ?_ | refine WL.skip rfl rfl rfl rfl ?_ | refine WL.extract rfl rfl rfl ?_)
  refine WL.lss rfl rfl rfl (fun hlt => ?_) (fun hge => ?_)
  · repeat (first | refine WL.move rfl rfl ?_ | refine WL.assign rfl rfl ?_ | refine W.seq ?_ | refine W.region ?_ | refine WL.nil ?_ | refine Post.next ?_ | refine Post.tail ?_ | refine W.cond_t rfl ?_ | refine W.cond_f rfl ?_ | refine W.block ?_ | refine W.skip ?_ | refine W.exit ?_ | refine W.ret ?_ | refine Post.block_exit ?_ | refine Post.block_other rfl ?_ | refine Post.then_exit ?_ | refine Post.then_ret ?_ | refine Post.block_ret ?_ | refine Post.block_normal ?_ | refine WL.lenS (tyS rfl) rfl rfl ?_ | refine WL.lenStr und9 rfl rfl ?_ | refine WL.fieldAddr (tyF rfl) rfl rfl ?_ | refine WL.not rfl rfl ?_ | refine WL.pick_t rfl rfl rfl ?_ | refine WL.pick_f rfl rfl rfl ?_ | refine WL.want rfl rfl ?_ | refine WL.skip rfl rfl rfl rfl ?_ | refine WL.extract rfl rfl rfl ?_ | refine WL.addI rfl rfl (by omega) rfl ?_ | refine WL.subI rfl rfl (by omega) rfl ?_ | refine WL.indexS (tyS rfl) rfl rfl (by omega) rfl ?_ | refine WL.indexA (tyR rfl) rfl rfl (by omega) rfl ?_)
    refine WL.store (o' := k) (tyP rfl) rfl rfl rfl hrow (by first | omega | (simp; done) | (simp; omega)) (by simp only [intsC, List.length_map]; omega) ?_
    intro w7 hg7 hz7 hr7
    refine ⟨trivial, ?_⟩
    rw [spl_setI _ _ _ (by omega)] at hr7
    repeat (first | refine WL.move rfl rfl ?_ | refine WL.assign rfl rfl ?_ | refine W.seq ?_ | refine W.region ?_ | refine WL.nil ?_ | refine Post.next ?_ | refine Post.tail ?_ | refine W.cond_t rfl ?_ | refine W.cond_f rfl ?_ | refine W.block ?_ | refine W.skip ?_ | refine W.exit ?_ | refine W.ret ?_ | refine Post.block_exit ?_ | refine Post.block_other rfl ?_ | refine Post.then_exit ?_ | refine Post.then_ret ?_ | refine Post.block_ret ?_ | refine Post.block_normal ?_ | refine WL.lenS (tyS rfl) rfl rfl ?_ | refine WL.lenStr und9 rfl rfl ?_ | refine WL.fieldAddr (tyF rfl) rfl rfl ?_ | refine WL.not rfl rfl ?_ | refine WL.pick_t rfl rfl rfl ?_ | refine WL.pick_f rfl rfl rfl ?_ | refine WL.want rfl rfl ?_ | refine WL.skip rfl rfl rfl rfl ?_ | refine WL.extract rfl rfl rfl ?_ | refine WL.addI rfl rfl (by omega) rfl ?_ | refine WL.subI rfl rfl (by omega) rfl ?_ | refine WL.indexS (tyS rfl) rfl rfl (by omega) rfl ?_ | refine WL.indexA (tyR rfl) rfl rfl (by omega) rfl ?_)
    refine Post.round2 (k + 1) (L.set k (k : Int)) ⟨rfl, rfl, rfl, rfl, rfl, (by first | rfl | (simp [look]; done) | (simp [look]; omega)), trivial⟩ ⟨by omega, by simp [hL], ?_, hr7, huy.step hg7 (by intro j hj; cases hj; exact hg6)⟩ (by first | omega | (simp; done) | (simp; omega))
    rw [hLe]
    have hlen : (iotaL k).length = k := by simp [iotaL]
    have e1 : 256 - k = (256 - (k + 1)) + 1 := by omega
    rw [e1, List.replicate_succ, List.set_append_right _ _ (by omega), hlen, Nat.sub_self]
    simp [iotaL, List.range_succ]
  have hku : k = used := by omega
  subst hku
  have hL0 : L = list0 k := hLe
  subst hL0
  repeat (first | refine WL.move rfl rfl ?_ | refine WL.assign rfl rfl ?_ | refine W.seq ?_ | refine W.region ?_ | refine WL.nil ?_ | refine Post.next ?_ | refine Post.tail ?_ | refine W.cond_t rfl ?_ | refine W.cond_f rfl ?_ | refine W.block ?_ | refine W.skip ?_ | refine W.exit ?_ | refine W.ret ?_ | refine Post.block_exit ?_ | refine Post.block_other rfl ?_ | refine Post.then_exit ?_ | refine Post.then_ret ?_ | refine Post.block_ret ?_ | refine Post.block_normal ?_ | refine WL.lenS (tyS rfl) rfl rfl ?_ | refine WL.lenStr und9 rfl rfl ?_ | refine WL.fieldAddr (tyF rfl) rfl rfl ?_ | refine WL.not rfl rfl ?_ | refine WL.pick_t rfl rfl rfl ?_ | refine WL.pick_f rfl rfl rfl ?_ | refine WL.want rfl rfl ?_ | refine WL.skip rfl rfl rfl rfl ?_ | refine WL.extract rfl rfl rfl ?_)
  have hcy : ∀ i, (hi : i < E.length + 1) → ∀ {w'}, Up wy w' → w'.cell? ⟨bg, og + ds.length + i, none⟩ = some (.int .u16 (G[i]'(by rw [hElen]; exact hi))) := by
    intro i hi w' h
    have := (huy.trans h).cell (hgc6 (ds.length + i) (by omega))
    rw [List.getElem_append_right (by omega)] at this
    rw [Nat.add_assoc]
    simpa using this
  have hal0 : ∃ A Z, list0 k = A ++ Z ∧ A.length = k ∧ ∀ s ∈ (ls.map fun x => sq x.toNat), s ∈ A := ⟨iotaL k, _, rfl, by simp [iotaL], fun s hs' => by
    obtain ⟨x, hx, rfl⟩ := List.mem_map.1 hs'
    obtain ⟨h1, h2⟩ := hrk x hx
    exact List.mem_map.2 ⟨(sq x.toNat).toNat, List.mem_range.2 (by omega), by show Int.ofNat (sq x.toNat).toNat = sq x.toNat; simp; omega⟩⟩
  obtain ⟨zz0, rest0, hD0⟩ := DSt.start (k := k) (ranks := ls.map fun x => sq x.toNat) (G := G) (j := 0) (out := 0) (rs := ls.map fun x => sq x.toNat) (by rw [List.drop_zero]; exact hG.symm) rfl hal0 hL
  refine W.loop7 (fun (j out run wg _ : Nat) (_ _ : List Int) => [(1, .slice al ls.length cl), (2, sv), (3, .int .i64 k), (14, .slice (some ⟨bg, og + ds.length, none⟩) (E.length + 1) (cg - ((ds.length : Int)).toNat)), (15, .pointer (some ⟨g, 0, none⟩)), (17, .int .i64 out), (18, .int .i64 run), (19, .int .i64 wg), (20, .int .i64 j)])
    (fun j out run wg zz L rest wz => j ≤ E.length ∧ DSt k (ls.map fun x => sq x.toNat) G j out run wg zz L rest ∧ Row wz g (intsC L) 53 ∧ Up w6 wz ∧ out ≤ ls.length) (fun j _ _ _ _ _ _ => E.length - j) 0 0 0 1 zz0 (list0 k) rest0
    ⟨rfl, rfl, rfl, rfl, rfl, rfl, rfl, rfl, rfl, trivial⟩ ⟨by omega, hD0, hrow, huy, by omega⟩ ?_
  rintro j out run wg zz L rest wz ⟨hj, hD, hrz, huz, hol⟩
  repeat (first | refine WL.move rfl rfl ?_ | refine WL.assign rfl rfl ?_ | refine W.seq ?_ | refine W.region ?_ | refine WL.nil ?_ | refine Post.next ?_ | refine Post.tail ?_ | refine W.cond_t rfl ?_ | refine W.cond_f rfl ?_ | refine W.block ?_ | refine W.skip ?_ | refine W.exit ?_ | refine W.ret ?_ | refine Post.block_exit ?_ | refine Post.block_other rfl ?_ | refine Post.then_exit ?_ | refine Post.then_ret ?_ | refine Post.block_ret ?_ | refine Post.block_normal ?_ | refine WL.lenS (tyS rfl) rfl rfl ?_ | refine WL.lenStr und9 rfl rfl ?_ | refine WL.fieldAddr (tyF rfl) rfl rfl ?_ | refine WL.not rfl rfl ?_ | refine WL.pick_t rfl rfl rfl ?_ | refine WL.pick_f rfl rfl rfl ?_ | refine WL.want rfl rfl ?_ | refine WL.skip rfl rfl rfl rfl ?_ | refine WL.extract rfl rfl rfl ?_ | refine WL.addI rfl rfl (by omega) rfl ?_ | refine WL.subI rfl rfl (by omega) rfl ?_ | refine WL.indexS (tyS rfl) rfl rfl (by omega) rfl ?_ | refine WL.indexA (tyR rfl) rfl rfl (by omega) rfl ?_)
  refine WL.lss rfl rfl rfl (fun hlt2 => ?_) (fun hge2 => ?_)
  · have hj' : j < E.length := by omega
    have hcj := hcy j (by omega) (Up.refl wy)
    have hcj6 : wz.cell? ⟨bg, og + ds.length + j, none⟩ = some (.int .u16 (G[j]'(by omega))) := by
      have := huz.cell (hgc6 (ds.length + j) (by omega))
      rw [List.getElem_append_right (by omega)] at this
      rw [Nat.add_assoc]
      simpa using this
    have hGj : G[j]? = some (G[j]'(by omega)) := List.getElem?_eq_getElem (by omega)
    have hrl : (ls.map fun x => sq x.toNat).length = ls.length := by simp
    cases zz with
    | succ y =>
      obtain ⟨hg0, hD'⟩ := hD.digit
      rw [hGj] at hg0
      have hgv := Option.some.inj hg0
      have hlen := congrArg List.length hD'.rk
      simp only [List.length_drop, List.length_append, List.length_replicate, hrl] at hlen
      rw [hgv] at hcj6
      have hw := hD.wg
      generalize hP : (y % 2 + 1) * wg = Pm at *
      have hPi : (((y % 2 : Nat) : Int) + 1) * (wg : Int) = (Pm : Int) := by rw [← hP, Int.natCast_mul, Int.natCast_add]; rfl
      repeat (first | refine WL.move rfl rfl ?_ | refine WL.assign rfl rfl ?_ | refine W.seq ?_ | refine W.region ?_ | refine WL.nil ?_ | refine Post.next ?_ | refine Post.tail ?_ | refine W.cond_t rfl ?_ | refine W.cond_f rfl ?_ | refine W.block ?_ | refine W.skip ?_ | refine W.exit ?_ | refine W.ret ?_ | refine Post.block_exit ?_ | refine Post.block_other rfl ?_ | refine Post.then_exit ?_ | refine Post.then_ret ?_ | refine Post.block_ret ?_ | refine Post.block_normal ?_ | refine WL.lenS (tyS rfl) rfl rfl ?_ | refine WL.lenStr und9 rfl rfl ?_ | refine WL.fieldAddr (tyF rfl) rfl rfl ?_ | refine WL.not rfl rfl ?_ | refine WL.pick_t rfl rfl rfl ?_ | refine WL.pick_f rfl rfl rfl ?_ | refine WL.want rfl rfl ?_ | refine WL.skip rfl rfl rfl rfl ?_ | refine WL.extract rfl rfl rfl ?_ | refine WL.addI rfl rfl (by omega) rfl ?_ | refine WL.subI rfl rfl (by omega) rfl ?_ | refine WL.indexS (tyS rfl) rfl rfl (by omega) rfl ?_ | refine WL.indexA (tyR rfl) rfl rfl (by omega) rfl ?_)
      refine WL.load (o' := og + ds.length + j) (tyP rfl) rfl (fun _ e => e) hcj6 (by first | omega | (simp; done) | (simp; omega)) rfl ?_
      refine WL.conv' (kd' := .i64) (tyI rfl) (tyI rfl) rfl (i64w (by omega) (by omega)) rfl ?_
      repeat (first | refine WL.move rfl rfl ?_ | refine WL.assign rfl rfl ?_ | refine W.seq ?_ | refine W.region ?_ | refine WL.nil ?_ | refine Post.next ?_ | refine Post.tail ?_ | refine W.cond_t rfl ?_ | refine W.cond_f rfl ?_ | refine W.block ?_ | refine W.skip ?_ | refine W.exit ?_ | refine W.ret ?_ | refine Post.block_exit ?_ | refine Post.block_other rfl ?_ | refine Post.then_exit ?_ | refine Post.then_ret ?_ | refine Post.block_ret ?_ | refine Post.block_normal ?_ | refine WL.lenS (tyS rfl) rfl rfl ?_ | refine WL.lenStr und9 rfl rfl ?_ | refine WL.fieldAddr (tyF rfl) rfl rfl ?_ | refine WL.not rfl rfl ?_ | refine WL.pick_t rfl rfl rfl ?_ | refine WL.pick_f rfl rfl rfl ?_ | refine WL.want rfl rfl ?_ | refine WL.skip rfl rfl rfl rfl ?_ | refine WL.extract rfl rfl rfl ?_ | refine WL.addI rfl rfl (by omega) rfl ?_ | refine WL.subI rfl rfl (by omega) rfl ?_ | refine WL.indexS (tyS rfl) rfl rfl (by omega) rfl ?_ | refine WL.indexA (tyR rfl) rfl rfl (by omega) rfl ?_ | (first | refine WL.lss_t rfl rfl (by omega) rfl ?_ | refine WL.lss_f rfl rfl (by omega) rfl ?_ | refine WL.gtr_t rfl rfl (by omega) rfl ?_ | refine WL.gtr_f rfl rfl (by omega) rfl ?_ | refine WL.eqI_t rfl rfl (by omega) rfl ?_ | refine WL.eqI_f rfl rfl (by omega) rfl ?_ | refine WL.neqI_t rfl rfl (by omega) rfl ?_ | refine WL.neqI_f rfl rfl (by omega) rfl ?_ | refine WL.leq_t rfl rfl (by omega) rfl ?_ | refine WL.leq_f rfl rfl (by omega) rfl ?_ | refine WL.geq_t rfl rfl (by omega) rfl ?_ | refine WL.geq_f rfl rfl (by omega) rfl ?_))
      refine WL.mulI rfl rfl (by rw [hPi]; omega) rfl ?_
      rw [hPi]
      repeat (first | refine WL.move rfl rfl ?_ | refine WL.assign rfl rfl ?_ | refine W.seq ?_ | refine W.region ?_ | refine WL.nil ?_ | refine Post.next ?_ | refine Post.tail ?_ | refine W.cond_t rfl ?_ | refine W.cond_f rfl ?_ | refine W.block ?_ | refine W.skip ?_ | refine W.exit ?_ | refine W.ret ?_ | refine Post.block_exit ?_ | refine Post.block_other rfl ?_ | refine Post.then_exit ?_ | refine Post.then_ret ?_ | refine Post.block_ret ?_ | refine Post.block_normal ?_ | refine WL.lenS (tyS rfl) rfl rfl ?_ | refine WL.lenStr und9 rfl rfl ?_ | refine WL.fieldAddr (tyF rfl) rfl rfl ?_ | refine WL.not rfl rfl ?_ | refine WL.pick_t rfl rfl rfl ?_ | refine WL.pick_f rfl rfl rfl ?_ | refine WL.want rfl rfl ?_ | refine WL.skip rfl rfl rfl rfl ?_ | refine WL.extract rfl rfl rfl ?_ | refine WL.addI rfl rfl (by omega) rfl ?_ | refine WL.subI rfl rfl (by omega) rfl ?_ | refine WL.indexS (tyS rfl) rfl rfl (by omega) rfl ?_ | refine WL.indexA (tyR rfl) rfl rfl (by omega) rfl ?_)
      refine WL.mulI rfl rfl (by omega) rfl ?_
      repeat (first | refine WL.move rfl rfl ?_ | refine WL.assign rfl rfl ?_ | refine W.seq ?_ | refine W.region ?_ | refine WL.nil ?_ | refine Post.next ?_ | refine Post.tail ?_ | refine W.cond_t rfl ?_ | refine W.cond_f rfl ?_ | refine W.block ?_ | refine W.skip ?_ | refine W.exit ?_ | refine W.ret ?_ | refine Post.block_exit ?_ | refine Post.block_other rfl ?_ | refine Post.then_exit ?_ | refine Post.then_ret ?_ | refine Post.block_ret ?_ | refine Post.block_normal ?_ | refine WL.lenS (tyS rfl) rfl rfl ?_ | refine WL.lenStr und9 rfl rfl ?_ | refine WL.fieldAddr (tyF rfl) rfl rfl ?_ | refine WL.not rfl rfl ?_ | refine WL.pick_t rfl rfl rfl ?_ | refine WL.pick_f rfl rfl rfl ?_ | refine WL.want rfl rfl ?_ | refine WL.skip rfl rfl rfl rfl ?_ | refine WL.extract rfl rfl rfl ?_ | refine WL.addI rfl rfl (by omega) rfl ?_ | refine WL.subI rfl rfl (by omega) rfl ?_ | refine WL.indexS (tyS rfl) rfl rfl (by omega) rfl ?_ | refine WL.indexA (tyR rfl) rfl rfl (by omega) rfl ?_ | (first | refine WL.lss_t rfl rfl (by omega) rfl ?_ | refine WL.lss_f rfl rfl (by omega) rfl ?_ | refine WL.gtr_t rfl rfl (by omega) rfl ?_ | refine WL.gtr_f rfl rfl (by omega) rfl ?_ | refine WL.eqI_t rfl rfl (by omega) rfl ?_ | refine WL.eqI_f rfl rfl (by omega) rfl ?_ | refine WL.neqI_t rfl rfl (by omega) rfl ?_ | refine WL.neqI_f rfl rfl (by omega) rfl ?_ | refine WL.leq_t rfl rfl (by omega) rfl ?_ | refine WL.leq_f rfl rfl (by omega) rfl ?_ | refine WL.geq_t rfl rfl (by omega) rfl ?_ | refine WL.geq_f rfl rfl (by omega) rfl ?_))
      exact Post.round7 (j + 1) out (run + Pm) (wg * 2) (y / 2) L rest ⟨rfl, rfl, rfl, rfl, rfl, rfl, (by first | rfl | (simp [look]; done) | (simp [look]; omega)), (by first | rfl | (simp [look]; done) | (simp [look]; omega)), (by first | rfl | (simp [look]; done) | (simp [look]; omega)), trivial⟩ ⟨by omega, hD', hrz, huz, hol⟩ (by omega)
    | zero =>
      have hhead : L.headD 0 = L[0]'(by have := hD.len; omega) := by
        obtain ⟨t, ht⟩ := headD_cons hD.len
        cases L with
        | nil => have := hD.len; simp at this
        | cons x r => rfl
      cases rest with
      | nil =>
        exfalso
        have := congrArg List.length hD.sy
        rw [runD_zero, tailE] at this
        simp at this
        omega
      | cons s ss =>
        obtain ⟨hsr, hsL, hp1, hpk, hg0, hat, zz', rest', hD'⟩ := hD.sym
        rw [hGj] at hg0
        have hgv := Option.some.inj hg0
        rw [hgv] at hcj6
        have hlen := congrArg List.length hD.rk
        simp only [List.length_drop, List.length_append, List.length_replicate, hrl, List.length_cons, Nat.mul_zero, Nat.add_zero] at hlen
        have hout : out + run < ls.length := by
          have := (List.getElem?_eq_some_iff.1 hat).1
          rw [hrl] at this; exact this
        have hall : ∀ i, (h : i < ls.length) → out ≤ i → i < out + run → sq (ls[i]).toNat = L.headD 0 := by
          intro i h h1 h2
          have e1 : ((ls.map fun x => sq x.toNat).drop out)[i - out]? = some (sq (ls[i]).toNat) := by
            rw [List.getElem?_drop, Nat.add_sub_cancel' h1, List.getElem?_map, List.getElem?_eq_getElem h]; rfl
          rw [hD.rk, List.getElem?_append_left (by simp; omega), List.getElem?_replicate, if_pos (by simp; omega)] at e1
          exact (Option.some.inj e1).symm
        generalize hpd : posL s L = p at *
        have hL256 := hD.len
        obtain ⟨hlz, hsz⟩ := hread w6 hst.g
        have hlne : ls ≠ [] := by intro e; subst e; simp at hout
        repeat (first | refine WL.move rfl rfl ?_ | refine WL.assign rfl rfl ?_ | refine W.seq ?_ | refine W.region ?_ | refine WL.nil ?_ | refine Post.next ?_ | refine Post.tail ?_ | refine W.cond_t rfl ?_ | refine W.cond_f rfl ?_ | refine W.block ?_ | refine W.skip ?_ | refine W.exit ?_ | refine W.ret ?_ | refine Post.block_exit ?_ | refine Post.block_other rfl ?_ | refine Post.then_exit ?_ | refine Post.then_ret ?_ | refine Post.block_ret ?_ | refine Post.block_normal ?_ | refine WL.lenS (tyS rfl) rfl rfl ?_ | refine WL.lenStr und9 rfl rfl ?_ | refine WL.fieldAddr (tyF rfl) rfl rfl ?_ | refine WL.not rfl rfl ?_ | refine WL.pick_t rfl rfl rfl ?_ | refine WL.pick_f rfl rfl rfl ?_ | refine WL.want rfl rfl ?_ | refine WL.skip rfl rfl rfl rfl ?_ | refine WL.extract rfl rfl rfl ?_ | refine WL.addI rfl rfl (by omega) rfl ?_ | refine WL.subI rfl rfl (by omega) rfl ?_ | refine WL.indexS (tyS rfl) rfl rfl (by omega) rfl ?_ | refine WL.indexA (tyR rfl) rfl rfl (by omega) rfl ?_)
        refine WL.load (o' := og + ds.length + j) (tyP rfl) rfl (fun _ e => e) hcj6 (by first | omega | (simp; done) | (simp; omega)) rfl ?_
        refine WL.conv' (kd' := .i64) (tyI rfl) (tyI rfl) rfl (i64w (by omega) (by omega)) rfl ?_
        repeat (first | refine WL.move rfl rfl ?_ | refine WL.assign rfl rfl ?_ | refine W.seq ?_ | refine W.region ?_ | refine WL.nil ?_ | refine Post.next ?_ | refine Post.tail ?_ | refine W.cond_t rfl ?_ | refine W.cond_f rfl ?_ | refine W.block ?_ | refine W.skip ?_ | refine W.exit ?_ | refine W.ret ?_ | refine Post.block_exit ?_ | refine Post.block_other rfl ?_ | refine Post.then_exit ?_ | refine Post.then_ret ?_ | refine Post.block_ret ?_ | refine Post.block_normal ?_ | refine WL.lenS (tyS rfl) rfl rfl ?_ | refine WL.lenStr und9 rfl rfl ?_ | refine WL.fieldAddr (tyF rfl) rfl rfl ?_ | refine WL.not rfl rfl ?_ | refine WL.pick_t rfl rfl rfl ?_ | refine WL.pick_f rfl rfl rfl ?_ | refine WL.want rfl rfl ?_ | refine WL.skip rfl rfl rfl rfl ?_ | refine WL.extract rfl rfl rfl ?_ | refine WL.addI rfl rfl (by omega) rfl ?_ | refine WL.subI rfl rfl (by omega) rfl ?_ | refine WL.indexS (tyS rfl) rfl rfl (by omega) rfl ?_ | refine WL.indexA (tyR rfl) rfl rfl (by omega) rfl ?_ | (first | refine WL.lss_t rfl rfl (by omega) rfl ?_ | refine WL.lss_f rfl rfl (by omega) rfl ?_ | refine WL.gtr_t rfl rfl (by omega) rfl ?_ | refine WL.gtr_f rfl rfl (by omega) rfl ?_ | refine WL.eqI_t rfl rfl (by omega) rfl ?_ | refine WL.eqI_f rfl rfl (by omega) rfl ?_ | refine WL.neqI_t rfl rfl (by omega) rfl ?_ | refine WL.neqI_f rfl rfl (by omega) rfl ?_ | refine WL.leq_t rfl rfl (by omega) rfl ?_ | refine WL.leq_f rfl rfl (by omega) rfl ?_ | refine WL.geq_t rfl rfl (by omega) rfl ?_ | refine WL.geq_f rfl rfl (by omega) rfl ?_))
        refine WL.load (o' := 0) (tyP rfl) rfl (fun _ e => e) (hrz.cell (intsC_get (by omega))) (by first | omega | (simp; done) | (simp; omega)) rfl ?_
        rw [← hhead]
        refine WL.call _ (fnT rfl) (args5 rfl rfl rfl rfl rfl) (runMatches_c wz _ sv ls sq out run (L.headD 0) (hlz.up huz) (fun h => (hsz h).up huz) hll hb hq (by omega) hall) (by rintro e w' ⟨rfl, _⟩; exact ⟨_, rfl⟩) rfl ?_
        rintro v w7 ⟨hv, hu7⟩
        cases hv
        refine ⟨trivial, ?_⟩
        have hr7 := hrz.up hu7
        have hps : L[p]? = some s := by rw [← hpd]; exact posL_get hsL
        have hpl : p < L.length := by omega
        have hps' : L[p] = s := by rw [List.getElem?_eq_getElem hpl] at hps; exact Option.some.inj hps
        have hpc : (((p + 1 : Nat) : Int)) - 1 = (p : Int) := by omega
        repeat (first | refine WL.move rfl rfl ?_ | refine WL.assign rfl rfl ?_ | refine W.seq ?_ | refine W.region ?_ | refine WL.nil ?_ | refine Post.next ?_ | refine Post.tail ?_ | refine W.cond_t rfl ?_ | refine W.cond_f rfl ?_ | refine W.block ?_ | refine W.skip ?_ | refine W.exit ?_ | refine W.ret ?_ | refine Post.block_exit ?_ | refine Post.block_other rfl ?_ | refine Post.then_exit ?_ | refine Post.then_ret ?_ | refine Post.block_ret ?_ | refine Post.block_normal ?_ | refine WL.lenS (tyS rfl) rfl rfl ?_ | refine WL.lenStr und9 rfl rfl ?_ | refine WL.fieldAddr (tyF rfl) rfl rfl ?_ | refine WL.not rfl rfl ?_ | refine WL.pick_t rfl rfl rfl ?_ | refine WL.pick_f rfl rfl rfl ?_ | refine WL.want rfl rfl ?_ | refine WL.skip rfl rfl rfl rfl ?_ | refine WL.extract rfl rfl rfl ?_ | refine WL.addI rfl rfl (by omega) rfl ?_ | refine WL.subI rfl rfl (by omega) rfl ?_ | refine WL.indexS (tyS rfl) rfl rfl (by omega) rfl ?_ | refine WL.indexA (tyR rfl) rfl rfl (by omega) rfl ?_ | (first | refine WL.lss_t rfl rfl (by omega) rfl ?_ | refine WL.lss_f rfl rfl (by omega) rfl ?_ | refine WL.gtr_t rfl rfl (by omega) rfl ?_ | refine WL.gtr_f rfl rfl (by omega) rfl ?_ | refine WL.eqI_t rfl rfl (by omega) rfl ?_ | refine WL.eqI_f rfl rfl (by omega) rfl ?_ | refine WL.neqI_t rfl rfl (by omega) rfl ?_ | refine WL.neqI_f rfl rfl (by omega) rfl ?_ | refine WL.leq_t rfl rfl (by omega) rfl ?_ | refine WL.leq_f rfl rfl (by omega) rfl ?_ | refine WL.geq_t rfl rfl (by omega) rfl ?_ | refine WL.geq_f rfl rfl (by omega) rfl ?_))
        refine WL.load (o' := p) (tyP rfl) rfl (fun _ e => e) (hr7.cell (intsC_get hpl)) (by first | omega | (simp; done) | (simp; omega)) rfl ?_
        rw [hps']
        repeat (first | refine WL.move rfl rfl ?_ | refine WL.assign rfl rfl ?_ | refine W.seq ?_ | refine W.region ?_ | refine WL.nil ?_ | refine Post.next ?_ | refine Post.tail ?_ | refine W.cond_t rfl ?_ | refine W.cond_f rfl ?_ | refine W.block ?_ | refine W.skip ?_ | refine W.exit ?_ | refine W.ret ?_ | refine Post.block_exit ?_ | refine Post.block_other rfl ?_ | refine Post.then_exit ?_ | refine Post.then_ret ?_ | refine Post.block_ret ?_ | refine Post.block_normal ?_ | refine WL.lenS (tyS rfl) rfl rfl ?_ | refine WL.lenStr und9 rfl rfl ?_ | refine WL.fieldAddr (tyF rfl) rfl rfl ?_ | refine WL.not rfl rfl ?_ | refine WL.pick_t rfl rfl rfl ?_ | refine WL.pick_f rfl rfl rfl ?_ | refine WL.want rfl rfl ?_ | refine WL.skip rfl rfl rfl rfl ?_ | refine WL.extract rfl rfl rfl ?_ | refine WL.addI rfl rfl (by omega) rfl ?_ | refine WL.subI rfl rfl (by omega) rfl ?_ | refine WL.indexS (tyS rfl) rfl rfl (by omega) rfl ?_ | refine WL.indexA (tyR rfl) rfl rfl (by omega) rfl ?_ | (first | refine WL.lss_t rfl rfl (by omega) rfl ?_ | refine WL.lss_f rfl rfl (by omega) rfl ?_ | refine WL.gtr_t rfl rfl (by omega) rfl ?_ | refine WL.gtr_f rfl rfl (by omega) rfl ?_ | refine WL.eqI_t rfl rfl (by omega) rfl ?_ | refine WL.eqI_f rfl rfl (by omega) rfl ?_ | refine WL.neqI_t rfl rfl (by omega) rfl ?_ | refine WL.neqI_f rfl rfl (by omega) rfl ?_ | refine WL.leq_t rfl rfl (by omega) rfl ?_ | refine WL.leq_f rfl rfl (by omega) rfl ?_ | refine WL.geq_t rfl rfl (by omega) rfl ?_ | refine WL.geq_f rfl rfl (by omega) rfl ?_))
        refine W.loop (fun (q : Nat) => [(1, .slice al ls.length cl), (2, sv), (3, .int .i64 k), (14, .slice (some ⟨bg, og + ds.length, none⟩) (E.length + 1) (cg - ((ds.length : Int)).toNat)), (15, .pointer (some ⟨g, 0, none⟩)), (17, .int .i64 ((out + run : Nat) : Int)), (18, .int .i64 (0 : Nat)), (19, .int .i64 (1 : Nat)), (20, .int .i64 j), (23, .int .i64 s), (24, .int .i64 q)])
          (fun q wq => q ≤ p ∧ Row wq g (intsC (dnL L p q)) 53 ∧ Up w6 wq) (fun q => q) p ⟨rfl, rfl, rfl, rfl, rfl, (by first | rfl | (simp [look]; done) | (simp [look]; omega)), rfl, rfl, rfl, rfl, (by first | rfl | (simp [look]; done) | (simp [look]; omega)), trivial⟩ ⟨Nat.le_refl _, by rw [dnL_top hpl]; exact hr7, huz.trans hu7⟩ ?_
        rintro q wq ⟨hqp, hrq, huq⟩
        have hdl := dnL_len hqp hpl
        repeat (first | refine WL.move rfl rfl ?_ | refine WL.assign rfl rfl ?_ | refine W.seq ?_ | refine W.region ?_ | refine WL.nil ?_ | refine Post.next ?_ | refine Post.tail ?_ | refine W.cond_t rfl ?_ | refine W.cond_f rfl ?_ | refine W.block ?_ | refine W.skip ?_ | refine W.exit ?_ | refine W.ret ?_ | refine Post.block_exit ?_ | refine Post.block_other rfl ?_ | refine Post.then_exit ?_ | refine Post.then_ret ?_ | refine Post.block_ret ?_ | refine Post.block_normal ?_ | refine WL.lenS (tyS rfl) rfl rfl ?_ | refine WL.lenStr und9 rfl rfl ?_ | refine WL.fieldAddr (tyF rfl) rfl rfl ?_ | refine WL.not rfl rfl ?_ | refine WL.pick_t rfl rfl rfl ?_ | refine WL.pick_f rfl rfl rfl ?_ | refine WL.want rfl rfl ?_ | refine WL.skip rfl rfl rfl rfl ?_ | refine WL.extract rfl rfl rfl ?_ | refine WL.addI rfl rfl (by omega) rfl ?_ | refine WL.subI rfl rfl (by omega) rfl ?_ | refine WL.indexS (tyS rfl) rfl rfl (by omega) rfl ?_ | refine WL.indexA (tyR rfl) rfl rfl (by omega) rfl ?_)
        refine WL.gtr rfl rfl rfl (fun hq0 => ?_) (fun hq1 => ?_)
        · obtain ⟨q, rfl⟩ : ∃ q', q = q' + 1 := ⟨q - 1, by omega⟩
          have hcq : (intsC (dnL L p (q + 1)))[q]? = some (.int .i64 (L[q]'(by omega))) := by
            unfold intsC
            rw [List.getElem?_map, dnL_at hqp hpl, if_pos (by omega), List.getElem?_eq_getElem (by omega)]; rfl
          repeat (first | refine WL.move rfl rfl ?_ | refine WL.assign rfl rfl ?_ | refine W.seq ?_ | refine W.region ?_ | refine WL.nil ?_ | refine Post.next ?_ | refine Post.tail ?_ | refine W.cond_t rfl ?_ | refine W.cond_f rfl ?_ | refine W.block ?_ | refine W.skip ?_ | refine W.exit ?_ | refine W.ret ?_ | refine Post.block_exit ?_ | refine Post.block_other rfl ?_ | refine Post.then_exit ?_ | refine Post.then_ret ?_ | refine Post.block_ret ?_ | refine Post.block_normal ?_ | refine WL.lenS (tyS rfl) rfl rfl ?_ | refine WL.lenStr und9 rfl rfl ?_ | refine WL.fieldAddr (tyF rfl) rfl rfl ?_ | refine WL.not rfl rfl ?_ | refine WL.pick_t rfl rfl rfl ?_ | refine WL.pick_f rfl rfl rfl ?_ | refine WL.want rfl rfl ?_ | refine WL.skip rfl rfl rfl rfl ?_ | refine WL.extract rfl rfl rfl ?_ | refine WL.addI rfl rfl (by omega) rfl ?_ | refine WL.subI rfl rfl (by omega) rfl ?_ | refine WL.indexS (tyS rfl) rfl rfl (by omega) rfl ?_ | refine WL.indexA (tyR rfl) rfl rfl (by omega) rfl ?_)
          refine WL.load (o' := q) (tyP rfl) rfl (fun _ e => e) (hrq.cell hcq) (by first | omega | (simp; done) | (simp; omega)) rfl ?_
          repeat (first | refine WL.move rfl rfl ?_ | refine WL.assign rfl rfl ?_ | refine W.seq ?_ | refine W.region ?_ | refine WL.nil ?_ | refine Post.next ?_ | refine Post.tail ?_ | refine W.cond_t rfl ?_ | refine W.cond_f rfl ?_ | refine W.block ?_ | refine W.skip ?_ | refine W.exit ?_ | refine W.ret ?_ | refine Post.block_exit ?_ | refine Post.block_other rfl ?_ | refine Post.then_exit ?_ | refine Post.then_ret ?_ | refine Post.block_ret ?_ | refine Post.block_normal ?_ | refine WL.lenS (tyS rfl) rfl rfl ?_ | refine WL.lenStr und9 rfl rfl ?_ | refine WL.fieldAddr (tyF rfl) rfl rfl ?_ | refine WL.not rfl rfl ?_ | refine WL.pick_t rfl rfl rfl ?_ | refine WL.pick_f rfl rfl rfl ?_ | refine WL.want rfl rfl ?_ | refine WL.skip rfl rfl rfl rfl ?_ | refine WL.extract rfl rfl rfl ?_ | refine WL.addI rfl rfl (by omega) rfl ?_ | refine WL.subI rfl rfl (by omega) rfl ?_ | refine WL.indexS (tyS rfl) rfl rfl (by omega) rfl ?_ | refine WL.indexA (tyR rfl) rfl rfl (by omega) rfl ?_)
          refine WL.store (o' := q + 1) (tyP rfl) rfl rfl rfl hrq (by first | omega | (simp; done) | (simp; omega)) (by simp only [intsC, List.length_map]; omega) ?_
          intro w8 hg8 hz8 hr8
          refine ⟨trivial, ?_⟩
          rw [spl_setI _ _ _ (by omega), dnL_step hqp hpl] at hr8
          repeat (first | refine WL.move rfl rfl ?_ | refine WL.assign rfl rfl ?_ | refine W.seq ?_ | refine W.region ?_ | refine WL.nil ?_ | refine Post.next ?_ | refine Post.tail ?_ | refine W.cond_t rfl ?_ | refine W.cond_f rfl ?_ | refine W.block ?_ | refine W.skip ?_ | refine W.exit ?_ | refine W.ret ?_ | refine Post.block_exit ?_ | refine Post.block_other rfl ?_ | refine Post.then_exit ?_ | refine Post.then_ret ?_ | refine Post.block_ret ?_ | refine Post.block_normal ?_ | refine WL.lenS (tyS rfl) rfl rfl ?_ | refine WL.lenStr und9 rfl rfl ?_ | refine WL.fieldAddr (tyF rfl) rfl rfl ?_ | refine WL.not rfl rfl ?_ | refine WL.pick_t rfl rfl rfl ?_ | refine WL.pick_f rfl rfl rfl ?_ | refine WL.want rfl rfl ?_ | refine WL.skip rfl rfl rfl rfl ?_ | refine WL.extract rfl rfl rfl ?_ | refine WL.addI rfl rfl (by omega) rfl ?_ | refine WL.subI rfl rfl (by omega) rfl ?_ | refine WL.indexS (tyS rfl) rfl rfl (by omega) rfl ?_ | refine WL.indexA (tyR rfl) rfl rfl (by omega) rfl ?_)
          exact Post.round q ⟨rfl, rfl, rfl, rfl, rfl, rfl, rfl, rfl, rfl, rfl, (by first | rfl | (simp [look]; done) | (simp [look]; omega)), trivial⟩ ⟨by omega, hr8, huq.step hg8 (by intro j hj; cases hj; exact hg6)⟩ (by omega)
        · have hq2 : q = 0 := by omega
          subst hq2
          repeat (first | refine WL.move rfl rfl ?_ | refine WL.assign rfl rfl ?_ | refine W.seq ?_ | refine W.region ?_ | refine WL.nil ?_ | refine Post.next ?_ | refine Post.tail ?_ | refine W.cond_t rfl ?_ | refine W.cond_f rfl ?_ | refine W.block ?_ | refine W.skip ?_ | refine W.exit ?_ | refine W.ret ?_ | refine Post.block_exit ?_ | refine Post.block_other rfl ?_ | refine Post.then_exit ?_ | refine Post.then_ret ?_ | refine Post.block_ret ?_ | refine Post.block_normal ?_ | refine WL.lenS (tyS rfl) rfl rfl ?_ | refine WL.lenStr und9 rfl rfl ?_ | refine WL.fieldAddr (tyF rfl) rfl rfl ?_ | refine WL.not rfl rfl ?_ | refine WL.pick_t rfl rfl rfl ?_ | refine WL.pick_f rfl rfl rfl ?_ | refine WL.want rfl rfl ?_ | refine WL.skip rfl rfl rfl rfl ?_ | refine WL.extract rfl rfl rfl ?_ | refine WL.addI rfl rfl (by omega) rfl ?_ | refine WL.subI rfl rfl (by omega) rfl ?_ | refine WL.indexS (tyS rfl) rfl rfl (by omega) rfl ?_ | refine WL.indexA (tyR rfl) rfl rfl (by omega) rfl ?_)
          refine WL.store (o' := 0) (tyP rfl) rfl rfl rfl hrq (by first | omega | (simp; done) | (simp; omega)) (by simp only [intsC, List.length_map]; omega) ?_
          intro w8 hg8 hz8 hr8
          refine ⟨trivial, ?_⟩
          have hop := outL_pos hsL
          rw [hpd] at hop
          rw [spl_setI _ _ _ (by omega), dnL_done s hpl, ← hop] at hr8
          have hud := (huq.step hg8 (by intro j hj; cases hj; exact hg6)).trans (Up.drew w8)
          obtain ⟨bl, ol, el, hlcell⟩ := (hls.up hud).get hout
          cases el
          obtain ⟨bs, os, es, hsc⟩ := (hsz hlne).up hud
          subst es
          have hm := List.getElem_mem hout
          obtain ⟨hb0, hb1⟩ := hb _ hm
          have hsv : sq (ls[out + run]).toNat = s := by
            rw [List.getElem?_map, List.getElem?_eq_getElem hout] at hat
            exact Option.some.inj hat
          obtain ⟨hq0', hq1'⟩ := hq (ls[out + run]).toNat (by omega)
          have hcc := hsc (ls[out + run]).toNat (by omega)
          repeat (first | refine WL.move rfl rfl ?_ | refine WL.assign rfl rfl ?_ | refine W.seq ?_ | refine W.region ?_ | refine WL.nil ?_ | refine Post.next ?_ | refine Post.tail ?_ | refine W.cond_t rfl ?_ | refine W.cond_f rfl ?_ | refine W.block ?_ | refine W.skip ?_ | refine W.exit ?_ | refine W.ret ?_ | refine Post.block_exit ?_ | refine Post.block_other rfl ?_ | refine Post.then_exit ?_ | refine Post.then_ret ?_ | refine Post.block_ret ?_ | refine Post.block_normal ?_ | refine WL.lenS (tyS rfl) rfl rfl ?_ | refine WL.lenStr und9 rfl rfl ?_ | refine WL.fieldAddr (tyF rfl) rfl rfl ?_ | refine WL.not rfl rfl ?_ | refine WL.pick_t rfl rfl rfl ?_ | refine WL.pick_f rfl rfl rfl ?_ | refine WL.want rfl rfl ?_ | refine WL.skip rfl rfl rfl rfl ?_ | refine WL.extract rfl rfl rfl ?_)
          refine W.region_q mixed (by kernel_rfl) ?_
          repeat (first | refine WL.move rfl rfl ?_ | refine WL.assign rfl rfl ?_ | refine W.seq ?_ | refine W.region ?_ | refine WL.nil ?_ | refine Post.next ?_ | refine Post.tail ?_ | refine W.cond_t rfl ?_ | refine W.cond_f rfl ?_ | refine W.block ?_ | refine W.skip ?_ | refine W.exit ?_ | refine W.ret ?_ | refine Post.block_exit ?_ | refine Post.block_other rfl ?_ | refine Post.then_exit ?_ | refine Post.then_ret ?_ | refine Post.block_ret ?_ | refine Post.block_normal ?_ | refine WL.lenS (tyS rfl) rfl rfl ?_ | refine WL.lenStr und9 rfl rfl ?_ | refine WL.fieldAddr (tyF rfl) rfl rfl ?_ | refine WL.not rfl rfl ?_ | refine WL.pick_t rfl rfl rfl ?_ | refine WL.pick_f rfl rfl rfl ?_ | refine WL.want rfl rfl ?_ | refine WL.skip rfl rfl rfl rfl ?_ | refine WL.extract rfl rfl rfl ?_ | refine WL.addI rfl rfl (by omega) rfl ?_ | refine WL.subI rfl rfl (by omega) rfl ?_ | refine WL.indexS (tyS rfl) rfl rfl (by omega) rfl ?_ | refine WL.indexA (tyR rfl) rfl rfl (by omega) rfl ?_ | (first | refine WL.lss_t rfl rfl (by omega) rfl ?_ | refine WL.lss_f rfl rfl (by omega) rfl ?_ | refine WL.gtr_t rfl rfl (by omega) rfl ?_ | refine WL.gtr_f rfl rfl (by omega) rfl ?_ | refine WL.eqI_t rfl rfl (by omega) rfl ?_ | refine WL.eqI_f rfl rfl (by omega) rfl ?_ | refine WL.neqI_t rfl rfl (by omega) rfl ?_ | refine WL.neqI_f rfl rfl (by omega) rfl ?_ | refine WL.leq_t rfl rfl (by omega) rfl ?_ | refine WL.leq_f rfl rfl (by omega) rfl ?_ | refine WL.geq_t rfl rfl (by omega) rfl ?_ | refine WL.geq_f rfl rfl (by omega) rfl ?_))
          refine WL.load (o' := ol + (out + run)) (tyP rfl) rfl (fun _ e => e) (hlcell _ hout) (by first | omega | (simp; done) | (simp; omega)) rfl ?_
          repeat (first | refine WL.move rfl rfl ?_ | refine WL.assign rfl rfl ?_ | refine W.seq ?_ | refine W.region ?_ | refine WL.nil ?_ | refine Post.next ?_ | refine Post.tail ?_ | refine W.cond_t rfl ?_ | refine W.cond_f rfl ?_ | refine W.block ?_ | refine W.skip ?_ | refine W.exit ?_ | refine W.ret ?_ | refine Post.block_exit ?_ | refine Post.block_other rfl ?_ | refine Post.then_exit ?_ | refine Post.then_ret ?_ | refine Post.block_ret ?_ | refine Post.block_normal ?_ | refine WL.lenS (tyS rfl) rfl rfl ?_ | refine WL.lenStr und9 rfl rfl ?_ | refine WL.fieldAddr (tyF rfl) rfl rfl ?_ | refine WL.not rfl rfl ?_ | refine WL.pick_t rfl rfl rfl ?_ | refine WL.pick_f rfl rfl rfl ?_ | refine WL.want rfl rfl ?_ | refine WL.skip rfl rfl rfl rfl ?_ | refine WL.extract rfl rfl rfl ?_)
          refine WL.nilCheck rfl rfl ?_
          repeat (first | refine WL.move rfl rfl ?_ | refine WL.assign rfl rfl ?_ | refine W.seq ?_ | refine W.region ?_ | refine WL.nil ?_ | refine Post.next ?_ | refine Post.tail ?_ | refine W.cond_t rfl ?_ | refine W.cond_f rfl ?_ | refine W.block ?_ | refine W.skip ?_ | refine W.exit ?_ | refine W.ret ?_ | refine Post.block_exit ?_ | refine Post.block_other rfl ?_ | refine Post.then_exit ?_ | refine Post.then_ret ?_ | refine Post.block_ret ?_ | refine Post.block_normal ?_ | refine WL.lenS (tyS rfl) rfl rfl ?_ | refine WL.lenStr und9 rfl rfl ?_ | refine WL.fieldAddr (tyF rfl) rfl rfl ?_ | refine WL.not rfl rfl ?_ | refine WL.pick_t rfl rfl rfl ?_ | refine WL.pick_f rfl rfl rfl ?_ | refine WL.want rfl rfl ?_ | refine WL.skip rfl rfl rfl rfl ?_ | refine WL.extract rfl rfl rfl ?_ | refine WL.addI rfl rfl (by omega) rfl ?_ | refine WL.subI rfl rfl (by omega) rfl ?_ | refine WL.indexS (tyS rfl) rfl rfl (by omega) rfl ?_ | refine WL.indexA (tyR rfl) rfl rfl (by omega) rfl ?_ | (first | refine WL.lss_t rfl rfl (by omega) rfl ?_ | refine WL.lss_f rfl rfl (by omega) rfl ?_ | refine WL.gtr_t rfl rfl (by omega) rfl ?_ | refine WL.gtr_f rfl rfl (by omega) rfl ?_ | refine WL.eqI_t rfl rfl (by omega) rfl ?_ | refine WL.eqI_f rfl rfl (by omega) rfl ?_ | refine WL.neqI_t rfl rfl (by omega) rfl ?_ | refine WL.neqI_f rfl rfl (by omega) rfl ?_ | refine WL.leq_t rfl rfl (by omega) rfl ?_ | refine WL.leq_f rfl rfl (by omega) rfl ?_ | refine WL.geq_t rfl rfl (by omega) rfl ?_ | refine WL.geq_f rfl rfl (by omega) rfl ?_))
          refine WL.load (o' := os + (ls[out + run]).toNat) (tyP rfl) rfl (fun _ e => e) hcc (by first | omega | (simp; done) | (simp; omega)) rfl ?_
          repeat (first | refine WL.move rfl rfl ?_ | refine WL.assign rfl rfl ?_ | refine W.seq ?_ | refine W.region ?_ | refine WL.nil ?_ | refine Post.next ?_ | refine Post.tail ?_ | refine W.cond_t rfl ?_ | refine W.cond_f rfl ?_ | refine W.block ?_ | refine W.skip ?_ | refine W.exit ?_ | refine W.ret ?_ | refine Post.block_exit ?_ | refine Post.block_other rfl ?_ | refine Post.then_exit ?_ | refine Post.then_ret ?_ | refine Post.block_ret ?_ | refine Post.block_normal ?_ | refine WL.lenS (tyS rfl) rfl rfl ?_ | refine WL.lenStr und9 rfl rfl ?_ | refine WL.fieldAddr (tyF rfl) rfl rfl ?_ | refine WL.not rfl rfl ?_ | refine WL.pick_t rfl rfl rfl ?_ | refine WL.pick_f rfl rfl rfl ?_ | refine WL.want rfl rfl ?_ | refine WL.skip rfl rfl rfl rfl ?_ | refine WL.extract rfl rfl rfl ?_)
          refine WL.conv' (kd' := .i64) (tyI rfl) (tyI rfl) rfl (i64w (by omega) (by omega)) rfl ?_
          repeat (first | refine WL.move rfl rfl ?_ | refine WL.assign rfl rfl ?_ | refine W.seq ?_ | refine W.region ?_ | refine WL.nil ?_ | refine Post.next ?_ | refine Post.tail ?_ | refine W.cond_t rfl ?_ | refine W.cond_f rfl ?_ | refine W.block ?_ | refine W.skip ?_ | refine W.exit ?_ | refine W.ret ?_ | refine Post.block_exit ?_ | refine Post.block_other rfl ?_ | refine Post.then_exit ?_ | refine Post.then_ret ?_ | refine Post.block_ret ?_ | refine Post.block_normal ?_ | refine WL.lenS (tyS rfl) rfl rfl ?_ | refine WL.lenStr und9 rfl rfl ?_ | refine WL.fieldAddr (tyF rfl) rfl rfl ?_ | refine WL.not rfl rfl ?_ | refine WL.pick_t rfl rfl rfl ?_ | refine WL.pick_f rfl rfl rfl ?_ | refine WL.want rfl rfl ?_ | refine WL.skip rfl rfl rfl rfl ?_ | refine WL.extract rfl rfl rfl ?_ | refine WL.addI rfl rfl (by omega) rfl ?_ | refine WL.subI rfl rfl (by omega) rfl ?_ | refine WL.indexS (tyS rfl) rfl rfl (by omega) rfl ?_ | refine WL.indexA (tyR rfl) rfl rfl (by omega) rfl ?_ | (first | refine WL.lss_t rfl rfl (by omega) rfl ?_ | refine WL.lss_f rfl rfl (by omega) rfl ?_ | refine WL.gtr_t rfl rfl (by omega) rfl ?_ | refine WL.gtr_f rfl rfl (by omega) rfl ?_ | refine WL.eqI_t rfl rfl (by omega) rfl ?_ | refine WL.eqI_f rfl rfl (by omega) rfl ?_ | refine WL.neqI_t rfl rfl (by omega) rfl ?_ | refine WL.neqI_f rfl rfl (by omega) rfl ?_ | refine WL.leq_t rfl rfl (by omega) rfl ?_ | refine WL.leq_f rfl rfl (by omega) rfl ?_ | refine WL.geq_t rfl rfl (by omega) rfl ?_ | refine WL.geq_f rfl rfl (by omega) rfl ?_))
          exact Post.round7 (j + 1) (out + run + 1) 0 1 zz' (s :: outL s L) rest' ⟨rfl, rfl, rfl, rfl, rfl, (by first | rfl | (simp [look]; done) | (simp [look]; omega)), rfl, rfl, (by first | rfl | (simp [look]; done) | (simp [look]; omega)), trivial⟩ ⟨by omega, hD', hr8.up (Up.drew w8), hud, by omega⟩ (by omega)
  · have hje : j = E.length := by omega
    subst hje
    have hsy := congrArg List.length hD.sy
    rw [List.length_drop, hElen, List.length_append] at hsy
    have hz0 : zz = 0 ∧ rest = [] := by
      cases rest with
      | nil =>
        refine ⟨?_, rfl⟩
        cases zz with
        | zero => rfl
        | succ y =>
          rw [runD_succ] at hsy
          simp [tailE] at hsy
      | cons s ss =>
        exfalso
        obtain ⟨E', hE'⟩ := encG_last k ss (s :: outL s L) 0
        rw [tailE, hE'] at hsy
        simp at hsy
        omega
    obtain ⟨rfl, rfl⟩ := hz0
    have hrl : (ls.map fun x => sq x.toNat).length = ls.length := by simp
    have hrk' := hD.rk
    rw [Nat.mul_zero, Nat.add_zero, List.append_nil] at hrk'
    have hlen := congrArg List.length hrk'
    simp only [List.length_drop, List.length_replicate, hrl] at hlen
    have hall : ∀ i, (h : i < ls.length) → out ≤ i → i < out + run → sq (ls[i]).toNat = L.headD 0 := by
      intro i h h1 h2
      have e1 : ((ls.map fun x => sq x.toNat).drop out)[i - out]? = some (sq (ls[i]).toNat) := by
        rw [List.getElem?_drop, Nat.add_sub_cancel' h1, List.getElem?_map, List.getElem?_eq_getElem h]; rfl
      rw [hrk', List.getElem?_replicate, if_pos (by omega)] at e1
      exact (Option.some.inj e1).symm
    have hL256 := hD.len
    have hhead : L.headD 0 = L[0]'(by omega) := by
      cases L with
      | nil => simp at hL256
      | cons x r => rfl
    obtain ⟨hlz, hsz⟩ := hread w6 hst.g
    repeat (first | refine WL.move rfl rfl ?_ | refine WL.assign rfl rfl ?_ | refine W.seq ?_ | refine W.region ?_ | refine WL.nil ?_ | refine Post.next ?_ | refine Post.tail ?_ | refine W.cond_t rfl ?_ | refine W.cond_f rfl ?_ | refine W.block ?_ | refine W.skip ?_ | refine W.exit ?_ | refine W.ret ?_ | refine Post.block_exit ?_ | refine Post.block_other rfl ?_ | refine Post.then_exit ?_ | refine Post.then_ret ?_ | refine Post.block_ret ?_ | refine Post.block_normal ?_ | refine WL.lenS (tyS rfl) rfl rfl ?_ | refine WL.lenStr und9 rfl rfl ?_ | refine WL.fieldAddr (tyF rfl) rfl rfl ?_ | refine WL.not rfl rfl ?_ | refine WL.pick_t rfl rfl rfl ?_ | refine WL.pick_f rfl rfl rfl ?_ | refine WL.want rfl rfl ?_ | refine WL.skip rfl rfl rfl rfl ?_ | refine WL.extract rfl rfl rfl ?_ | refine WL.addI rfl rfl (by omega) rfl ?_ | refine WL.subI rfl rfl (by omega) rfl ?_ | refine WL.indexS (tyS rfl) rfl rfl (by omega) rfl ?_ | refine WL.indexA (tyR rfl) rfl rfl (by omega) rfl ?_)
    refine WL.load (o' := 0) (tyP rfl) rfl (fun _ e => e) (hrz.cell (intsC_get (by omega))) (by first | omega | (simp; done) | (simp; omega)) rfl ?_
    rw [← hhead]
    refine WL.call _ (fnT rfl) (args5 rfl rfl rfl rfl rfl) (runMatches_c wz _ sv ls sq out run (L.headD 0) (hlz.up huz) (fun h => (hsz h).up huz) hll hb hq (by omega) hall) (by rintro e w' ⟨rfl, _⟩; exact ⟨_, rfl⟩) rfl ?_
    rintro v w7 ⟨hv, hu7⟩
    cases hv
    refine ⟨trivial, ?_⟩
    repeat (first | refine WL.move rfl rfl ?_ | refine WL.assign rfl rfl ?_ | refine W.seq ?_ | refine W.region ?_ | refine WL.nil ?_ | refine Post.next ?_ | refine Post.tail ?_ | refine W.cond_t rfl ?_ | refine W.cond_f rfl ?_ | refine W.block ?_ | refine W.skip ?_ | refine W.exit ?_ | refine W.ret ?_ | refine Post.block_exit ?_ | refine Post.block_other rfl ?_ | refine Post.then_exit ?_ | refine Post.then_ret ?_ | refine Post.block_ret ?_ | refine Post.block_normal ?_ | refine WL.lenS (tyS rfl) rfl rfl ?_ | refine WL.lenStr und9 rfl rfl ?_ | refine WL.fieldAddr (tyF rfl) rfl rfl ?_ | refine WL.not rfl rfl ?_ | refine WL.pick_t rfl rfl rfl ?_ | refine WL.pick_f rfl rfl rfl ?_ | refine WL.want rfl rfl ?_ | refine WL.skip rfl rfl rfl rfl ?_ | refine WL.extract rfl rfl rfl ?_ | refine WL.addI rfl rfl (by omega) rfl ?_ | refine WL.subI rfl rfl (by omega) rfl ?_ | refine WL.indexS (tyS rfl) rfl rfl (by omega) rfl ?_ | refine WL.indexA (tyR rfl) rfl rfl (by omega) rfl ?_ | (first | refine WL.lss_t rfl rfl (by omega) rfl ?_ | refine WL.lss_f rfl rfl (by omega) rfl ?_ | refine WL.gtr_t rfl rfl (by omega) rfl ?_ | refine WL.gtr_f rfl rfl (by omega) rfl ?_ | refine WL.eqI_t rfl rfl (by omega) rfl ?_ | refine WL.eqI_f rfl rfl (by omega) rfl ?_ | refine WL.neqI_t rfl rfl (by omega) rfl ?_ | refine WL.neqI_f rfl rfl (by omega) rfl ?_ | refine WL.leq_t rfl rfl (by omega) rfl ?_ | refine WL.leq_f rfl rfl (by omega) rfl ?_ | refine WL.geq_t rfl rfl (by omega) rfl ?_ | refine WL.geq_f rfl rfl (by omega) rfl ?_))
    exact Post.ret1 rfl rfl ⟨rfl, (U6.trans huz).trans hu7⟩
end Go.Lx
