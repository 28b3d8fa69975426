import Derived.Test.Qxb6603068aS7
import Derived.Test.Qxb6603068aS8
namespace Go.Lx
open Go.Proofs Go.RowKit

theorem grown_of_up {w w' : World} (h : Up w w') : w.grownBy w' none := ⟨h.os, h.tape, h.output, h.size, fun _ hk _ => h.block hk⟩
theorem sn_at {S : List Int} {v : Nat} (h : v < S.length) : sn S (v : Int) = S[v] := by
  unfold sn
  rw [Int.toNat_natCast, List.getElem?_eq_getElem h]; rfl
theorem RSt.dle {k i d : Nat} {S A : List Int} (h : RSt k i S A d) : A.length = k ∧ d ≤ k := by
  have h1 : A.length = k := by rw [h.pm.length_eq]; simp [iotaL]
  refine ⟨h1, ?_⟩
  have := List.countP_le_length (p := fun v => decide (0 < sn S v)) (l := A)
  have := h.ds
  omega
set_option maxHeartbeats 2000000 in
theorem rec_c (w : World) (v0 v1 sv : Value) (ds ls : List Int) (sq : Nat → Int) (u : Int) (h0 : IntsV .u16 w v0 ds) (h1 : IntsV .u8 w v1 ls) (hs : SeqP w sv sq) (hb : ∀ x ∈ ls, 0 ≤ x ∧ x < 256) (hq : ∀ c, c < 256 → 0 ≤ sq c ∧ sq c < 256) :
    Calls Try.prog 5 #[v0, v1, sv, .int .i64 u] w fun e w' => e = .returned (.bool true) ∧ Up w w' := by
  refine Calls.of_W (args := [v0, v1, sv, .int .i64 u]) Try.func5 rfl rfl rfl ?_
  repeat (first | refine WL.move rfl rfl ?_ | refine WL.assign rfl rfl ?_ | refine W.seq ?_ | refine W.region ?_ | refine WL.nil ?_ | refine Post.next ?_ | refine Post.tail ?_ | refine W.cond_t rfl ?_ | refine W.cond_f rfl ?_ | refine W.block ?_ | refine W.skip ?_ | refine W.exit ?_ | refine W.ret ?_ | refine Post.block_exit ?_ | refine Post.block_other rfl ?_ | refine Post.then_exit ?_ | refine Post.then_ret ?_ | refine Post.block_ret ?_ | refine Post.block_normal ?_ | refine WL.lenS (tyS rfl) rfl rfl ?_ | refine WL.lenStr und9 rfl rfl ?_ | refine WL.fieldAddr (tyF rfl) rfl rfl ?_ | refine WL.not rfl rfl ?_ | refine WL.pick_t rfl rfl rfl ?_ | refine WL.pick_f rfl rfl rfl ?_ | refine WL.want rfl rfl ?_ | refine WL.skip rfl rfl rfl rfl ?_ | refine WL.extract rfl rfl rfl ?_)
  refine WL.call _ (fnT rfl) (args4 rfl rfl rfl rfl) (zzRec_c w v0 v1 sv _ ds ls h0 h1) (by rintro e w' ⟨_, rfl, _⟩; exact ⟨_, rfl⟩) rfl ?_
  rintro v w1 ⟨r, hv, hr, rfl⟩
  cases hv
  refine ⟨trivial, ?_⟩
  cases r
  · repeat (first | refine WL.move rfl rfl ?_ | refine WL.assign rfl rfl ?_ | refine W.seq ?_ | refine W.region ?_ | refine WL.nil ?_ | refine Post.next ?_ | refine Post.tail ?_ | refine W.cond_t rfl ?_ | refine W.cond_f rfl ?_ | refine W.block ?_ | refine W.skip ?_ | refine W.exit ?_ | refine W.ret ?_ | refine Post.block_exit ?_ | refine Post.block_other rfl ?_ | refine Post.then_exit ?_ | refine Post.then_ret ?_ | refine Post.block_ret ?_ | refine Post.block_normal ?_ | refine WL.lenS (tyS rfl) rfl rfl ?_ | refine WL.lenStr und9 rfl rfl ?_ | refine WL.fieldAddr (tyF rfl) rfl rfl ?_ | refine WL.not rfl rfl ?_ | refine WL.pick_t rfl rfl rfl ?_ | refine WL.pick_f rfl rfl rfl ?_ | refine WL.want rfl rfl ?_ | refine WL.skip rfl rfl rfl rfl ?_ | refine WL.extract rfl rfl rfl ?_)
    exact Post.ret1 rfl rfl ⟨rfl, Up.refl _⟩
  obtain ⟨hld, hll⟩ := hr rfl
  clear hr
  obtain ⟨a0, c0, rfl, e0, k0⟩ := h0
  obtain ⟨a1, c1, rfl, e1, k1⟩ := h1
  repeat (first | refine WL.move rfl rfl ?_ | refine WL.assign rfl rfl ?_ | refine W.seq ?_ | refine W.region ?_ | refine WL.nil ?_ | refine Post.next ?_ | refine Post.tail ?_ | refine W.cond_t rfl ?_ | refine W.cond_f rfl ?_ | refine W.block ?_ | refine W.skip ?_ | refine W.exit ?_ | refine W.ret ?_ | refine Post.block_exit ?_ | refine Post.block_other rfl ?_ | refine Post.then_exit ?_ | refine Post.then_ret ?_ | refine Post.block_ret ?_ | refine Post.block_normal ?_ | refine WL.lenS (tyS rfl) rfl rfl ?_ | refine WL.lenStr und9 rfl rfl ?_ | refine WL.fieldAddr (tyF rfl) rfl rfl ?_ | refine WL.not rfl rfl ?_ | refine WL.pick_t rfl rfl rfl ?_ | refine WL.pick_f rfl rfl rfl ?_ | refine WL.want rfl rfl ?_ | refine WL.skip rfl rfl rfl rfl ?_ | refine WL.extract rfl rfl rfl ?_)
  refine WL.gtr rfl rfl rfl (fun hgt => ?_) (fun hd16 => ?_)
  · repeat (first | refine WL.move rfl rfl ?_ | refine WL.assign rfl rfl ?_ | refine W.seq ?_ | refine W.region ?_ | refine WL.nil ?_ | refine Post.next ?_ | refine Post.tail ?_ | refine W.cond_t rfl ?_ | refine W.cond_f rfl ?_ | refine W.block ?_ | refine W.skip ?_ | refine W.exit ?_ | refine W.ret ?_ | refine Post.block_exit ?_ | refine Post.block_other rfl ?_ | refine Post.then_exit ?_ | refine Post.then_ret ?_ | refine Post.block_ret ?_ | refine Post.block_normal ?_ | refine WL.lenS (tyS rfl) rfl rfl ?_ | refine WL.lenStr und9 rfl rfl ?_ | refine WL.fieldAddr (tyF rfl) rfl rfl ?_ | refine WL.not rfl rfl ?_ | refine WL.pick_t rfl rfl rfl ?_ | refine WL.pick_f rfl rfl rfl ?_ | refine WL.want rfl rfl ?_ | refine WL.skip rfl rfl rfl rfl ?_ | refine WL.extract rfl rfl rfl ?_)
    exact Post.ret1 rfl rfl ⟨rfl, Up.refl _⟩
  repeat (first | refine WL.move rfl rfl ?_ | refine WL.assign rfl rfl ?_ | refine W.seq ?_ | refine W.region ?_ | refine WL.nil ?_ | refine Post.next ?_ | refine Post.tail ?_ | refine W.cond_t rfl ?_ | refine W.cond_f rfl ?_ | refine W.block ?_ | refine W.skip ?_ | refine W.exit ?_ | refine W.ret ?_ | refine Post.block_exit ?_ | refine Post.block_other rfl ?_ | refine Post.then_exit ?_ | refine Post.then_ret ?_ | refine Post.block_ret ?_ | refine Post.block_normal ?_ | refine WL.lenS (tyS rfl) rfl rfl ?_ | refine WL.lenStr und9 rfl rfl ?_ | refine WL.fieldAddr (tyF rfl) rfl rfl ?_ | refine WL.not rfl rfl ?_ | refine WL.pick_t rfl rfl rfl ?_ | refine WL.pick_f rfl rfl rfl ?_ | refine WL.want rfl rfl ?_ | refine WL.skip rfl rfl rfl rfl ?_ | refine WL.extract rfl rfl rfl ?_)
  refine WL.gtr rfl rfl rfl (fun hgt => ?_) (fun hl16 => ?_)
  · repeat (first | refine WL.move rfl rfl ?_ | refine WL.assign rfl rfl ?_ | refine W.seq ?_ | refine W.region ?_ | refine WL.nil ?_ | refine Post.next ?_ | refine Post.tail ?_ | refine W.cond_t rfl ?_ | refine W.cond_f rfl ?_ | refine W.block ?_ | refine W.skip ?_ | refine W.exit ?_ | refine W.ret ?_ | refine Post.block_exit ?_ | refine Post.block_other rfl ?_ | refine Post.then_exit ?_ | refine Post.then_ret ?_ | refine Post.block_ret ?_ | refine Post.block_normal ?_ | refine WL.lenS (tyS rfl) rfl rfl ?_ | refine WL.lenStr und9 rfl rfl ?_ | refine WL.fieldAddr (tyF rfl) rfl rfl ?_ | refine WL.not rfl rfl ?_ | refine WL.pick_t rfl rfl rfl ?_ | refine WL.pick_f rfl rfl rfl ?_ | refine WL.want rfl rfl ?_ | refine WL.skip rfl rfl rfl rfl ?_ | refine WL.extract rfl rfl rfl ?_)
    exact Post.ret1 rfl rfl ⟨rfl, Up.refl _⟩
  repeat (first | refine WL.move rfl rfl ?_ | refine WL.assign rfl rfl ?_ | refine W.seq ?_ | refine W.region ?_ | refine WL.nil ?_ | refine Post.next ?_ | refine Post.tail ?_ | refine W.cond_t rfl ?_ | refine W.cond_f rfl ?_ | refine W.block ?_ | refine W.skip ?_ | refine W.exit ?_ | refine W.ret ?_ | refine Post.block_exit ?_ | refine Post.block_other rfl ?_ | refine Post.then_exit ?_ | refine Post.then_ret ?_ | refine Post.block_ret ?_ | refine Post.block_normal ?_ | refine WL.lenS (tyS rfl) rfl rfl ?_ | refine WL.lenStr und9 rfl rfl ?_ | refine WL.fieldAddr (tyF rfl) rfl rfl ?_ | refine WL.not rfl rfl ?_ | refine WL.pick_t rfl rfl rfl ?_ | refine WL.pick_f rfl rfl rfl ?_ | refine WL.want rfl rfl ?_ | refine WL.skip rfl rfl rfl rfl ?_ | refine WL.extract rfl rfl rfl ?_)
  refine WL.lss rfl rfl rfl (fun hgt => ?_) (fun hu0 => ?_)
  · repeat (first | refine WL.move rfl rfl ?_ | refine WL.assign rfl rfl ?_ | refine W.seq ?_ | refine W.region ?_ | refine WL.nil ?_ | refine Post.next ?_ | refine Post.tail ?_ | refine W.cond_t rfl ?_ | refine W.cond_f rfl ?_ | refine W.block ?_ | refine W.skip ?_ | refine W.exit ?_ | refine W.ret ?_ | refine Post.block_exit ?_ | refine Post.block_other rfl ?_ | refine Post.then_exit ?_ | refine Post.then_ret ?_ | refine Post.block_ret ?_ | refine Post.block_normal ?_ | refine WL.lenS (tyS rfl) rfl rfl ?_ | refine WL.lenStr und9 rfl rfl ?_ | refine WL.fieldAddr (tyF rfl) rfl rfl ?_ | refine WL.not rfl rfl ?_ | refine WL.pick_t rfl rfl rfl ?_ | refine WL.pick_f rfl rfl rfl ?_ | refine WL.want rfl rfl ?_ | refine WL.skip rfl rfl rfl rfl ?_ | refine WL.extract rfl rfl rfl ?_)
    exact Post.ret1 rfl rfl ⟨rfl, Up.refl _⟩
  repeat (first | refine WL.move rfl rfl ?_ | refine WL.assign rfl rfl ?_ | refine W.seq ?_ | refine W.region ?_ | refine WL.nil ?_ | refine Post.next ?_ | refine Post.tail ?_ | refine W.cond_t rfl ?_ | refine W.cond_f rfl ?_ | refine W.block ?_ | refine W.skip ?_ | refine W.exit ?_ | refine W.ret ?_ | refine Post.block_exit ?_ | refine Post.block_other rfl ?_ | refine Post.then_exit ?_ | refine Post.then_ret ?_ | refine Post.block_ret ?_ | refine Post.block_normal ?_ | refine WL.lenS (tyS rfl) rfl rfl ?_ | refine WL.lenStr und9 rfl rfl ?_ | refine WL.fieldAddr (tyF rfl) rfl rfl ?_ | refine WL.not rfl rfl ?_ | refine WL.pick_t rfl rfl rfl ?_ | refine WL.pick_f rfl rfl rfl ?_ | refine WL.want rfl rfl ?_ | refine WL.skip rfl rfl rfl rfl ?_ | refine WL.extract rfl rfl rfl ?_)
  refine WL.gtr rfl rfl rfl (fun hgt => ?_) (fun hu1 => ?_)
  · repeat (first | refine WL.move rfl rfl ?_ | refine WL.assign rfl rfl ?_ | refine W.seq ?_ | refine W.region ?_ | refine WL.nil ?_ | refine Post.next ?_ | refine Post.tail ?_ | refine W.cond_t rfl ?_ | refine W.cond_f rfl ?_ | refine W.block ?_ | refine W.skip ?_ | refine W.exit ?_ | refine W.ret ?_ | refine Post.block_exit ?_ | refine Post.block_other rfl ?_ | refine Post.then_exit ?_ | refine Post.then_ret ?_ | refine Post.block_ret ?_ | refine Post.block_normal ?_ | refine WL.lenS (tyS rfl) rfl rfl ?_ | refine WL.lenStr und9 rfl rfl ?_ | refine WL.fieldAddr (tyF rfl) rfl rfl ?_ | refine WL.not rfl rfl ?_ | refine WL.pick_t rfl rfl rfl ?_ | refine WL.pick_f rfl rfl rfl ?_ | refine WL.want rfl rfl ?_ | refine WL.skip rfl rfl rfl rfl ?_ | refine WL.extract rfl rfl rfl ?_)
    exact Post.ret1 rfl rfl ⟨rfl, Up.refl _⟩
  obtain ⟨used, rfl⟩ : ∃ n : Nat, u = (n : Int) := ⟨u.toNat, by omega⟩
  obtain ⟨sa, rfl⟩ : ∃ a, sv = .pointer a := by
    rcases hs with h | ⟨bs, os, h, _⟩
    · exact ⟨_, h⟩
    · exact ⟨_, h⟩
  repeat (first | refine WL.move rfl rfl ?_ | refine WL.assign rfl rfl ?_ | refine W.region ?_ | refine WL.nil ?_ | refine Post.next ?_ | refine Post.tail ?_ | refine W.cond_t rfl ?_ | refine W.cond_f rfl ?_ | refine W.block ?_ | refine W.skip ?_ | refine W.exit ?_ | refine W.ret ?_ | refine Post.block_exit ?_ | refine Post.block_other rfl ?_ | refine Post.then_exit ?_ | refine Post.then_ret ?_ | refine Post.block_ret ?_ | refine Post.block_normal ?_ | refine WL.lenS (tyS rfl) rfl rfl ?_ | refine WL.lenStr und9 rfl rfl ?_ | refine WL.fieldAddr (tyF rfl) rfl rfl ?_ | refine WL.not rfl rfl ?_ | refine WL.pick_t rfl rfl rfl ?_ | refine WL.pick_f rfl rfl rfl ?_ | refine WL.want rfl rfl ?_ | refine WL.skip rfl rfl rfl rfl ?_ | refine WL.extract rfl rfl rfl ?_)
  refine W.seq_join [(0, .slice a0 ds.length c0), (1, .slice a1 ls.length c1), (2, .pointer sa), (3, .int .i64 used)] (fun w' => w1 = w' ∧ (ls ≠ [] → SeqV w1 (.pointer sa) sq)) ?_ ?_
  · repeat (first | refine WL.move rfl rfl ?_ | refine WL.assign rfl rfl ?_ | refine W.seq ?_ | refine W.region ?_ | refine WL.nil ?_ | refine Post.next ?_ | refine Post.tail ?_ | refine W.cond_t rfl ?_ | refine W.cond_f rfl ?_ | refine W.block ?_ | refine W.skip ?_ | refine W.exit ?_ | refine W.ret ?_ | refine Post.block_exit ?_ | refine Post.block_other rfl ?_ | refine Post.then_exit ?_ | refine Post.then_ret ?_ | refine Post.block_ret ?_ | refine Post.block_normal ?_ | refine WL.lenS (tyS rfl) rfl rfl ?_ | refine WL.lenStr und9 rfl rfl ?_ | refine WL.fieldAddr (tyF rfl) rfl rfl ?_ | refine WL.not rfl rfl ?_ | refine WL.pick_t rfl rfl rfl ?_ | refine WL.pick_f rfl rfl rfl ?_ | refine WL.want rfl rfl ?_ | refine WL.skip rfl rfl rfl rfl ?_ | refine WL.extract rfl rfl rfl ?_)
    refine WL.gtr rfl rfl rfl (fun hpos => ?_) (fun hz => ?_)
    · repeat (first | refine WL.move rfl rfl ?_ | refine WL.assign rfl rfl ?_ | refine W.seq ?_ | refine W.region ?_ | refine WL.nil ?_ | refine Post.next ?_ | refine Post.tail ?_ | refine W.cond_t rfl ?_ | refine W.cond_f rfl ?_ | refine W.block ?_ | refine W.skip ?_ | refine W.exit ?_ | refine W.ret ?_ | refine Post.block_exit ?_ | refine Post.block_other rfl ?_ | refine Post.then_exit ?_ | refine Post.then_ret ?_ | refine Post.block_ret ?_ | refine Post.block_normal ?_ | refine WL.lenS (tyS rfl) rfl rfl ?_ | refine WL.lenStr und9 rfl rfl ?_ | refine WL.fieldAddr (tyF rfl) rfl rfl ?_ | refine WL.not rfl rfl ?_ | refine WL.pick_t rfl rfl rfl ?_ | refine WL.pick_f rfl rfl rfl ?_ | refine WL.want rfl rfl ?_ | refine WL.skip rfl rfl rfl rfl ?_ | refine WL.extract rfl rfl rfl ?_)
      refine WL.eqNilP Try.underlying50 rfl rfl ?_
      cases sa with
      | none =>
        repeat (first | refine WL.move rfl rfl ?_ | refine WL.assign rfl rfl ?_ | refine W.seq ?_ | refine W.region ?_ | refine WL.nil ?_ | refine Post.next ?_ | refine Post.tail ?_ | refine W.cond_t rfl ?_ | refine W.cond_f rfl ?_ | refine W.block ?_ | refine W.skip ?_ | refine W.exit ?_ | refine W.ret ?_ | refine Post.block_exit ?_ | refine Post.block_other rfl ?_ | refine Post.then_exit ?_ | refine Post.then_ret ?_ | refine Post.block_ret ?_ | refine Post.block_normal ?_ | refine WL.lenS (tyS rfl) rfl rfl ?_ | refine WL.lenStr und9 rfl rfl ?_ | refine WL.fieldAddr (tyF rfl) rfl rfl ?_ | refine WL.not rfl rfl ?_ | refine WL.pick_t rfl rfl rfl ?_ | refine WL.pick_f rfl rfl rfl ?_ | refine WL.want rfl rfl ?_ | refine WL.skip rfl rfl rfl rfl ?_ | refine WL.extract rfl rfl rfl ?_)
        exact Post.ret1 rfl rfl ⟨rfl, Up.refl _⟩
      | some ad =>
        repeat (first | refine WL.move rfl rfl ?_ | refine WL.assign rfl rfl ?_ | refine W.seq ?_ | refine W.region ?_ | refine WL.nil ?_ | refine Post.next ?_ | refine Post.tail ?_ | refine W.cond_t rfl ?_ | refine W.cond_f rfl ?_ | refine W.block ?_ | refine W.skip ?_ | refine W.exit ?_ | refine W.ret ?_ | refine Post.block_exit ?_ | refine Post.block_other rfl ?_ | refine Post.then_exit ?_ | refine Post.then_ret ?_ | refine Post.block_ret ?_ | refine Post.block_normal ?_ | refine WL.lenS (tyS rfl) rfl rfl ?_ | refine WL.lenStr und9 rfl rfl ?_ | refine WL.fieldAddr (tyF rfl) rfl rfl ?_ | refine WL.not rfl rfl ?_ | refine WL.pick_t rfl rfl rfl ?_ | refine WL.pick_f rfl rfl rfl ?_ | refine WL.want rfl rfl ?_ | refine WL.skip rfl rfl rfl rfl ?_ | refine WL.extract rfl rfl rfl ?_)
        exact Post.join ⟨rfl, rfl, rfl, rfl, trivial⟩ ⟨rfl, fun _ => hs.resolve_left (fun h => by cases h)⟩
    · repeat (first | refine WL.move rfl rfl ?_ | refine WL.assign rfl rfl ?_ | refine W.seq ?_ | refine W.region ?_ | refine WL.nil ?_ | refine Post.next ?_ | refine Post.tail ?_ | refine W.cond_t rfl ?_ | refine W.cond_f rfl ?_ | refine W.block ?_ | refine W.skip ?_ | refine W.exit ?_ | refine W.ret ?_ | refine Post.block_exit ?_ | refine Post.block_other rfl ?_ | refine Post.then_exit ?_ | refine Post.then_ret ?_ | refine Post.block_ret ?_ | refine Post.block_normal ?_ | refine WL.lenS (tyS rfl) rfl rfl ?_ | refine WL.lenStr und9 rfl rfl ?_ | refine WL.fieldAddr (tyF rfl) rfl rfl ?_ | refine WL.not rfl rfl ?_ | refine WL.pick_t rfl rfl rfl ?_ | refine WL.pick_f rfl rfl rfl ?_ | refine WL.want rfl rfl ?_ | refine WL.skip rfl rfl rfl rfl ?_ | refine WL.extract rfl rfl rfl ?_)
      exact Post.join ⟨rfl, rfl, rfl, rfl, trivial⟩ ⟨rfl, fun h => absurd (List.eq_nil_of_length_eq_zero (by omega)) h⟩
  rintro _ ⟨rfl, hsq⟩
  repeat (first | refine WL.move rfl rfl ?_ | refine WL.assign rfl rfl ?_ | refine W.seq ?_ | refine W.region ?_ | refine WL.nil ?_ | refine Post.next ?_ | refine Post.tail ?_ | refine W.cond_t rfl ?_ | refine W.cond_f rfl ?_ | refine W.block ?_ | refine W.skip ?_ | refine W.exit ?_ | refine W.ret ?_ | refine Post.block_exit ?_ | refine Post.block_other rfl ?_ | refine Post.then_exit ?_ | refine Post.then_ret ?_ | refine Post.block_ret ?_ | refine Post.block_normal ?_ | refine WL.lenS (tyS rfl) rfl rfl ?_ | refine WL.lenStr und9 rfl rfl ?_ | refine WL.fieldAddr (tyF rfl) rfl rfl ?_ | refine WL.not rfl rfl ?_ | refine WL.pick_t rfl rfl rfl ?_ | refine WL.pick_f rfl rfl rfl ?_ | refine WL.want rfl rfl ?_ | refine WL.skip rfl rfl rfl rfl ?_ | refine WL.extract rfl rfl rfl ?_)
  refine W.loop (fun (k : Nat) => [(0, .slice a0 ds.length c0), (1, .slice a1 ls.length c1), (2, .pointer sa), (3, .int .i64 used), (9, .int .i64 k)])
    (fun k wr => k ≤ ls.length ∧ (∀ i, (h : i < ls.length) → i < k → sq (ls[i]).toNat < used) ∧ Up w1 wr) (fun k => ls.length - k) 0 ⟨rfl, rfl, rfl, rfl, rfl, trivial⟩ ⟨by omega, by intro i _ h; omega, Up.refl _⟩ ?_
  rintro k wr ⟨hk, hrk, hu⟩
  repeat (first | refine WL.move rfl rfl ?_ | refine WL.assign rfl rfl ?_ | refine W.seq ?_ | refine W.region ?_ | refine WL.nil ?_ | refine Post.next ?_ | refine Post.tail ?_ | refine W.cond_t rfl ?_ | refine W.cond_f rfl ?_ | refine W.block ?_ | refine W.skip ?_ | refine W.exit ?_ | refine W.ret ?_ | refine Post.block_exit ?_ | refine Post.block_other rfl ?_ | refine Post.then_exit ?_ | refine Post.then_ret ?_ | refine Post.block_ret ?_ | refine Post.block_normal ?_ | refine WL.lenS (tyS rfl) rfl rfl ?_ | refine WL.lenStr und9 rfl rfl ?_ | refine WL.fieldAddr (tyF rfl) rfl rfl ?_ | refine WL.not rfl rfl ?_ | refine WL.pick_t rfl rfl rfl ?_ | refine WL.pick_f rfl rfl rfl ?_ | refine WL.want rfl rfl ?_ | refine WL.skip rfl rfl rfl rfl ?_ | refine WL.extract rfl rfl rfl ?_)
  refine WL.lss rfl rfl rfl (fun hlt => ?_) (fun hge => ?_)
  · have hk' : k < ls.length := by omega
    have hud := hu.trans (Up.drew wr)
    obtain ⟨bk, o, eq, hcell⟩ := (e1.up hud).get hk'
    cases eq
    obtain ⟨bs, os, eq, hsc⟩ := hsq (by intro e; subst e; simp at hk')
    cases eq
    obtain ⟨hb0, hb1⟩ := hb _ (List.getElem_mem hk')
    have hcc := hud.cell (hsc (ls[k]).toNat (by omega))
    obtain ⟨hq0, hq1⟩ := hq (ls[k]).toNat (by omega)
    repeat (first | refine WL.move rfl rfl ?_ | refine WL.assign rfl rfl ?_ | refine W.seq ?_ | refine W.region ?_ | refine WL.nil ?_ | refine Post.next ?_ | refine Post.tail ?_ | refine W.cond_t rfl ?_ | refine W.cond_f rfl ?_ | refine W.block ?_ | refine W.skip ?_ | refine W.exit ?_ | refine W.ret ?_ | refine Post.block_exit ?_ | refine Post.block_other rfl ?_ | refine Post.then_exit ?_ | refine Post.then_ret ?_ | refine Post.block_ret ?_ | refine Post.block_normal ?_ | refine WL.lenS (tyS rfl) rfl rfl ?_ | refine WL.lenStr und9 rfl rfl ?_ | refine WL.fieldAddr (tyF rfl) rfl rfl ?_ | refine WL.not rfl rfl ?_ | refine WL.pick_t rfl rfl rfl ?_ | refine WL.pick_f rfl rfl rfl ?_ | refine WL.want rfl rfl ?_ | refine WL.skip rfl rfl rfl rfl ?_ | refine WL.extract rfl rfl rfl ?_)
    refine W.region_q mixed (by kernel_rfl) ?_
    repeat (first | refine WL.move rfl rfl ?_ | refine WL.assign rfl rfl ?_ | refine W.seq ?_ | refine W.region ?_ | refine WL.nil ?_ | refine Post.next ?_ | refine Post.tail ?_ | refine W.cond_t rfl ?_ | refine W.cond_f rfl ?_ | refine W.block ?_ | refine W.skip ?_ | refine W.exit ?_ | refine W.ret ?_ | refine Post.block_exit ?_ | refine Post.block_other rfl ?_ | refine Post.then_exit ?_ | refine Post.then_ret ?_ | refine Post.block_ret ?_ | refine Post.block_normal ?_ | refine WL.lenS (tyS rfl) rfl rfl ?_ | refine WL.lenStr und9 rfl rfl ?_ | refine WL.fieldAddr (tyF rfl) rfl rfl ?_ | refine WL.not rfl rfl ?_ | refine WL.pick_t rfl rfl rfl ?_ | refine WL.pick_f rfl rfl rfl ?_ | refine WL.want rfl rfl ?_ | refine WL.skip rfl rfl rfl rfl ?_ | refine WL.extract rfl rfl rfl ?_ | refine WL.addI rfl rfl (by omega) rfl ?_ | refine WL.subI rfl rfl (by omega) rfl ?_ | refine WL.indexS (tyS rfl) rfl rfl (by omega) rfl ?_ | refine WL.indexA (tyR rfl) rfl rfl (by omega) rfl ?_)
    refine WL.load (o' := o + k) (tyP rfl) rfl (fun _ e => e) (hcell k hk') (by first | omega | (simp; done) | (simp; omega)) rfl ?_
    refine WL.nilCheck rfl rfl ?_
    repeat (first | refine WL.move rfl rfl ?_ | refine WL.assign rfl rfl ?_ | refine W.seq ?_ | refine W.region ?_ | refine WL.nil ?_ | refine Post.next ?_ | refine Post.tail ?_ | refine W.cond_t rfl ?_ | refine W.cond_f rfl ?_ | refine W.block ?_ | refine W.skip ?_ | refine W.exit ?_ | refine W.ret ?_ | refine Post.block_exit ?_ | refine Post.block_other rfl ?_ | refine Post.then_exit ?_ | refine Post.then_ret ?_ | refine Post.block_ret ?_ | refine Post.block_normal ?_ | refine WL.lenS (tyS rfl) rfl rfl ?_ | refine WL.lenStr und9 rfl rfl ?_ | refine WL.fieldAddr (tyF rfl) rfl rfl ?_ | refine WL.not rfl rfl ?_ | refine WL.pick_t rfl rfl rfl ?_ | refine WL.pick_f rfl rfl rfl ?_ | refine WL.want rfl rfl ?_ | refine WL.skip rfl rfl rfl rfl ?_ | refine WL.extract rfl rfl rfl ?_ | refine WL.addI rfl rfl (by omega) rfl ?_ | refine WL.subI rfl rfl (by omega) rfl ?_ | refine WL.indexS (tyS rfl) rfl rfl (by omega) rfl ?_ | refine WL.indexA (tyR rfl) rfl rfl (by omega) rfl ?_)
    refine WL.load (o' := os + (ls[k]).toNat) (tyP rfl) rfl (fun _ e => e) hcc (by first | omega | (simp; done) | (simp; omega)) rfl ?_
    refine WL.conv' (kd' := .i64) (tyI rfl) (tyI rfl) rfl (i64w (by omega) (by omega)) rfl ?_
    repeat (first | refine WL.move rfl rfl ?_ | refine WL.assign rfl rfl ?_ | refine W.seq ?_ | refine W.region ?_ | refine WL.nil ?_ | refine Post.next ?_ | refine Post.tail ?_ | refine W.cond_t rfl ?_ | refine W.cond_f rfl ?_ | refine W.block ?_ | refine W.skip ?_ | refine W.exit ?_ | refine W.ret ?_ | refine Post.block_exit ?_ | refine Post.block_other rfl ?_ | refine Post.then_exit ?_ | refine Post.then_ret ?_ | refine Post.block_ret ?_ | refine Post.block_normal ?_ | refine WL.lenS (tyS rfl) rfl rfl ?_ | refine WL.lenStr und9 rfl rfl ?_ | refine WL.fieldAddr (tyF rfl) rfl rfl ?_ | refine WL.not rfl rfl ?_ | refine WL.pick_t rfl rfl rfl ?_ | refine WL.pick_f rfl rfl rfl ?_ | refine WL.want rfl rfl ?_ | refine WL.skip rfl rfl rfl rfl ?_ | refine WL.extract rfl rfl rfl ?_)
    refine WL.geq rfl rfl rfl (fun hgt => ?_) (fun hlt2 => ?_)
    · repeat (first | refine WL.move rfl rfl ?_ | refine WL.assign rfl rfl ?_ | refine W.seq ?_ | refine W.region ?_ | refine WL.nil ?_ | refine Post.next ?_ | refine Post.tail ?_ | refine W.cond_t rfl ?_ | refine W.cond_f rfl ?_ | refine W.block ?_ | refine W.skip ?_ | refine W.exit ?_ | refine W.ret ?_ | refine Post.block_exit ?_ | refine Post.block_other rfl ?_ | refine Post.then_exit ?_ | refine Post.then_ret ?_ | refine Post.block_ret ?_ | refine Post.block_normal ?_ | refine WL.lenS (tyS rfl) rfl rfl ?_ | refine WL.lenStr und9 rfl rfl ?_ | refine WL.fieldAddr (tyF rfl) rfl rfl ?_ | refine WL.not rfl rfl ?_ | refine WL.pick_t rfl rfl rfl ?_ | refine WL.pick_f rfl rfl rfl ?_ | refine WL.want rfl rfl ?_ | refine WL.skip rfl rfl rfl rfl ?_ | refine WL.extract rfl rfl rfl ?_)
      exact Post.ret1 rfl rfl ⟨rfl, hud⟩
    · repeat (first | refine WL.move rfl rfl ?_ | refine WL.assign rfl rfl ?_ | refine W.seq ?_ | refine W.region ?_ | refine WL.nil ?_ | refine Post.next ?_ | refine Post.tail ?_ | refine W.cond_t rfl ?_ | refine W.cond_f rfl ?_ | refine W.block ?_ | refine W.skip ?_ | refine W.exit ?_ | refine W.ret ?_ | refine Post.block_exit ?_ | refine Post.block_other rfl ?_ | refine Post.then_exit ?_ | refine Post.then_ret ?_ | refine Post.block_ret ?_ | refine Post.block_normal ?_ | refine WL.lenS (tyS rfl) rfl rfl ?_ | refine WL.lenStr und9 rfl rfl ?_ | refine WL.fieldAddr (tyF rfl) rfl rfl ?_ | refine WL.not rfl rfl ?_ | refine WL.pick_t rfl rfl rfl ?_ | refine WL.pick_f rfl rfl rfl ?_ | refine WL.want rfl rfl ?_ | refine WL.skip rfl rfl rfl rfl ?_ | refine WL.extract rfl rfl rfl ?_ | refine WL.addI rfl rfl (by omega) rfl ?_ | refine WL.subI rfl rfl (by omega) rfl ?_ | refine WL.indexS (tyS rfl) rfl rfl (by omega) rfl ?_ | refine WL.indexA (tyR rfl) rfl rfl (by omega) rfl ?_)
      refine Post.round (k + 1) ⟨rfl, rfl, rfl, rfl, (by first | rfl | (simp [look]; done) | (simp [look]; omega)), trivial⟩ ⟨by omega, ?_, hud⟩ (by first | omega | (simp; done) | (simp; omega))
      intro i h hi
      by_cases e : i = k
      · subst e; omega
      · exact hrk i h (by omega)
  have hrk : ∀ x ∈ ls, 0 ≤ sq x.toNat ∧ sq x.toNat < used := fun x hx => by
    obtain ⟨i, hi, rfl⟩ := List.getElem_of_mem hx
    exact ⟨(hq _ (by have := hb _ hx; omega)).1, hrk i hi (by omega)⟩
  clear hge hk
  repeat (first | refine WL.move rfl rfl ?_ | refine WL.assign rfl rfl ?_ | refine W.seq ?_ | refine W.region ?_ | refine WL.nil ?_ | refine Post.next ?_ | refine Post.tail ?_ | refine W.cond_t rfl ?_ | refine W.cond_f rfl ?_ | refine W.block ?_ | refine W.skip ?_ | refine W.exit ?_ | refine W.ret ?_ | refine Post.block_exit ?_ | refine Post.block_other rfl ?_ | refine Post.then_exit ?_ | refine Post.then_ret ?_ | refine Post.block_ret ?_ | refine Post.block_normal ?_ | refine WL.lenS (tyS rfl) rfl rfl ?_ | refine WL.lenStr und9 rfl rfl ?_ | refine WL.fieldAddr (tyF rfl) rfl rfl ?_ | refine WL.not rfl rfl ?_ | refine WL.pick_t rfl rfl rfl ?_ | refine WL.pick_f rfl rfl rfl ?_ | refine WL.want rfl rfl ?_ | refine WL.skip rfl rfl rfl rfl ?_ | refine WL.extract rfl rfl rfl ?_)
  refine WL.call _ (fnT rfl) (args1 rfl) (cloneU_c wr _ ds ⟨a0, c0, rfl, e0.up hu, k0⟩ (by omega)) (by rintro e w' ⟨_, rfl, _⟩; exact ⟨_, rfl⟩) rfl ?_
  rintro v w2 ⟨dv, hv, hod, hu2⟩
  have hv := (Ending.returned.inj hv).symm
  subst hv
  refine ⟨trivial, ?_⟩
  repeat (first | refine WL.move rfl rfl ?_ | refine WL.assign rfl rfl ?_ | refine W.seq ?_ | refine W.region ?_ | refine WL.nil ?_ | refine Post.next ?_ | refine Post.tail ?_ | refine W.cond_t rfl ?_ | refine W.cond_f rfl ?_ | refine W.block ?_ | refine W.skip ?_ | refine W.exit ?_ | refine W.ret ?_ | refine Post.block_exit ?_ | refine Post.block_other rfl ?_ | refine Post.then_exit ?_ | refine Post.then_ret ?_ | refine Post.block_ret ?_ | refine Post.block_normal ?_ | refine WL.lenS (tyS rfl) rfl rfl ?_ | refine WL.lenStr und9 rfl rfl ?_ | refine WL.fieldAddr (tyF rfl) rfl rfl ?_ | refine WL.not rfl rfl ?_ | refine WL.pick_t rfl rfl rfl ?_ | refine WL.pick_f rfl rfl rfl ?_ | refine WL.want rfl rfl ?_ | refine WL.skip rfl rfl rfl rfl ?_ | refine WL.extract rfl rfl rfl ?_)
  refine WL.call _ (fnT rfl) (args1 rfl) (cloneB_c w2 _ ls ⟨a1, c1, rfl, e1.up (hu.trans hu2), k1⟩ (by omega)) (by rintro e w' ⟨_, rfl, _⟩; exact ⟨_, rfl⟩) rfl ?_
  rintro v w3 ⟨lv, hv, hol, hu3⟩
  have hv := (Ending.returned.inj hv).symm
  subst hv
  refine ⟨trivial, ?_⟩
  have U3 : Up w1 w3 := (hu.trans hu2).trans hu3
  repeat (first | refine WL.move rfl rfl ?_ | refine WL.assign rfl rfl ?_ | refine W.region ?_ | refine WL.nil ?_ | refine Post.next ?_ | refine Post.tail ?_ | refine W.cond_t rfl ?_ | refine W.cond_f rfl ?_ | refine W.block ?_ | refine W.skip ?_ | refine W.exit ?_ | refine W.ret ?_ | refine Post.block_exit ?_ | refine Post.block_other rfl ?_ | refine Post.then_exit ?_ | refine Post.then_ret ?_ | refine Post.block_ret ?_ | refine Post.block_normal ?_ | refine WL.lenS (tyS rfl) rfl rfl ?_ | refine WL.lenStr und9 rfl rfl ?_ | refine WL.fieldAddr (tyF rfl) rfl rfl ?_ | refine WL.not rfl rfl ?_ | refine WL.pick_t rfl rfl rfl ?_ | refine WL.pick_f rfl rfl rfl ?_ | refine WL.want rfl rfl ?_ | refine WL.skip rfl rfl rfl rfl ?_ | refine WL.extract rfl rfl rfl ?_)
  refine W.seq_joinE (fun (sv : Value) => [(0, dv), (1, lv), (2, sv), (3, .int .i64 used)]) (fun sv w' => Up w3 w' ∧ (ls ≠ [] → ∃ g, sv = .pointer (some ⟨g, 0, none⟩) ∧ w3.heap.size ≤ g ∧ Row w' g (bytesC (seqC sq)) 52)) ?_ ?_
  · repeat (first | refine WL.move rfl rfl ?_ | refine WL.assign rfl rfl ?_ | refine W.seq ?_ | refine W.region ?_ | refine WL.nil ?_ | refine Post.next ?_ | refine Post.tail ?_ | refine W.cond_t rfl ?_ | refine W.cond_f rfl ?_ | refine W.block ?_ | refine W.skip ?_ | refine W.exit ?_ | refine W.ret ?_ | refine Post.block_exit ?_ | refine Post.block_other rfl ?_ | refine Post.then_exit ?_ | refine Post.then_ret ?_ | refine Post.block_ret ?_ | refine Post.block_normal ?_ | refine WL.lenS (tyS rfl) rfl rfl ?_ | refine WL.lenStr und9 rfl rfl ?_ | refine WL.fieldAddr (tyF rfl) rfl rfl ?_ | refine WL.not rfl rfl ?_ | refine WL.pick_t rfl rfl rfl ?_ | refine WL.pick_f rfl rfl rfl ?_ | refine WL.want rfl rfl ?_ | refine WL.skip rfl rfl rfl rfl ?_ | refine WL.extract rfl rfl rfl ?_)
    refine WL.neqNilP Try.underlying50 rfl rfl ?_
    cases sa with
    | none =>
      repeat (first | refine WL.move rfl rfl ?_ | refine WL.assign rfl rfl ?_ | refine W.seq ?_ | refine W.region ?_ | refine WL.nil ?_ | refine Post.next ?_ | refine Post.tail ?_ | refine W.cond_t rfl ?_ | refine W.cond_f rfl ?_ | refine W.block ?_ | refine W.skip ?_ | refine W.exit ?_ | refine W.ret ?_ | refine Post.block_exit ?_ | refine Post.block_other rfl ?_ | refine Post.then_exit ?_ | refine Post.then_ret ?_ | refine Post.block_ret ?_ | refine Post.block_normal ?_ | refine WL.lenS (tyS rfl) rfl rfl ?_ | refine WL.lenStr und9 rfl rfl ?_ | refine WL.fieldAddr (tyF rfl) rfl rfl ?_ | refine WL.not rfl rfl ?_ | refine WL.pick_t rfl rfl rfl ?_ | refine WL.pick_f rfl rfl rfl ?_ | refine WL.want rfl rfl ?_ | refine WL.skip rfl rfl rfl rfl ?_ | refine WL.extract rfl rfl rfl ?_)
      refine Post.joinE (.pointer none) ⟨rfl, rfl, rfl, rfl, trivial⟩ ⟨Up.refl _, fun h => ?_⟩
      obtain ⟨bs, os, e, _⟩ := hsq h
      cases e
    | some ad =>
      obtain ⟨bs, os, e, hsc⟩ := hs.resolve_left (fun h => by cases h)
      cases e
      repeat (first | refine WL.move rfl rfl ?_ | refine WL.assign rfl rfl ?_ | refine W.seq ?_ | refine W.region ?_ | refine WL.nil ?_ | refine Post.next ?_ | refine Post.tail ?_ | refine W.cond_t rfl ?_ | refine W.cond_f rfl ?_ | refine W.block ?_ | refine W.skip ?_ | refine W.exit ?_ | refine W.ret ?_ | refine Post.block_exit ?_ | refine Post.block_other rfl ?_ | refine Post.then_exit ?_ | refine Post.then_ret ?_ | refine Post.block_ret ?_ | refine Post.block_normal ?_ | refine WL.lenS (tyS rfl) rfl rfl ?_ | refine WL.lenStr und9 rfl rfl ?_ | refine WL.fieldAddr (tyF rfl) rfl rfl ?_ | refine WL.not rfl rfl ?_ | refine WL.pick_t rfl rfl rfl ?_ | refine WL.pick_f rfl rfl rfl ?_ | refine WL.want rfl rfl ?_ | refine WL.skip rfl rfl rfl rfl ?_ | refine WL.extract rfl rfl rfl ?_)
      refine WL.nilCheck rfl rfl ?_
      refine WL.loadAgg (cs := bytesC (seqC sq)) (o' := os) (tyA rfl) rfl (seqC_len sq) (fun _ e => e) (fun j v hj => by obtain ⟨h1, rfl⟩ := seqC_get hj; exact U3.cell (hsc j h1)) (by first | omega | (simp; done) | (simp; omega)) rfl ?_
      refine WL.alloc zero52 rfl ?_
      intro w4 hg4 hz4 hr4
      refine ⟨trivial, ?_⟩
      refine WL.storeAgg (vs := bytesC (seqC sq)) (o' := 0) (tyA rfl) rfl rfl (seqC_len sq) (bytesC_one _) hr4 rfl (by rw [seqC_len, List.length_replicate]; exact Nat.le_refl _) ?_
      intro w5 hg5 hz5 hr5
      refine ⟨trivial, ?_⟩
      have he : spl (List.replicate 256 (Value.int .u8 0)) 0 (bytesC (seqC sq)) = bytesC (seqC sq) := by
        unfold spl
        rw [seqC_len, List.take_zero, List.nil_append, List.drop_of_length_le (by rw [List.length_replicate]; exact Nat.le_refl _), List.append_nil]
      rw [he] at hr5
      repeat (first | refine WL.move rfl rfl ?_ | refine WL.assign rfl rfl ?_ | refine W.seq ?_ | refine W.region ?_ | refine WL.nil ?_ | refine Post.next ?_ | refine Post.tail ?_ | refine W.cond_t rfl ?_ | refine W.cond_f rfl ?_ | refine W.block ?_ | refine W.skip ?_ | refine W.exit ?_ | refine W.ret ?_ | refine Post.block_exit ?_ | refine Post.block_other rfl ?_ | refine Post.then_exit ?_ | refine Post.then_ret ?_ | refine Post.block_ret ?_ | refine Post.block_normal ?_ | refine WL.lenS (tyS rfl) rfl rfl ?_ | refine WL.lenStr und9 rfl rfl ?_ | refine WL.fieldAddr (tyF rfl) rfl rfl ?_ | refine WL.not rfl rfl ?_ | refine WL.pick_t rfl rfl rfl ?_ | refine WL.pick_f rfl rfl rfl ?_ | refine WL.want rfl rfl ?_ | refine WL.skip rfl rfl rfl rfl ?_ | refine WL.extract rfl rfl rfl ?_)
      exact Post.joinE (.pointer (some ⟨w3.heap.size, 0, none⟩)) ⟨rfl, rfl, rfl, rfl, trivial⟩ ⟨(Up.grown hg4).step hg5 (by intro j hj; cases hj; exact Nat.le_refl _), fun _ => ⟨_, rfl, Nat.le_refl _, hr5⟩⟩
  rintro sv w4 ⟨hu4, hsr⟩
  have hod4 := ownsRow_up hod (hu3.trans hu4)
  repeat (first | refine WL.move rfl rfl ?_ | refine WL.assign rfl rfl ?_ | refine W.seq ?_ | refine W.region ?_ | refine WL.nil ?_ | refine Post.next ?_ | refine Post.tail ?_ | refine W.cond_t rfl ?_ | refine W.cond_f rfl ?_ | refine W.block ?_ | refine W.skip ?_ | refine W.exit ?_ | refine W.ret ?_ | refine Post.block_exit ?_ | refine Post.block_other rfl ?_ | refine Post.then_exit ?_ | refine Post.then_ret ?_ | refine Post.block_ret ?_ | refine Post.block_normal ?_ | refine WL.lenS (tyS rfl) rfl rfl ?_ | refine WL.lenStr und9 rfl rfl ?_ | refine WL.fieldAddr (tyF rfl) rfl rfl ?_ | refine WL.not rfl rfl ?_ | refine WL.pick_t rfl rfl rfl ?_ | refine WL.pick_f rfl rfl rfl ?_ | refine WL.want rfl rfl ?_ | refine WL.skip rfl rfl rfl rfl ?_ | refine WL.extract rfl rfl rfl ?_)
  refine WL.call _ (fnT rfl) (args1 rfl) (cloneU_c w4 _ ds (IntsV_own hod4) (by omega)) (by rintro e w' ⟨_, rfl, _⟩; exact ⟨_, rfl⟩) rfl ?_
  rintro v w5 ⟨pv, hv, hop, hu5⟩
  have hv := (Ending.returned.inj hv).symm
  subst hv
  refine ⟨trivial, ?_⟩
  have hod5 := ownsRow_up hod4 hu5
  have hol5 := ownsRow_up hol (hu4.trans hu5)
  have U5 : Up w1 w5 := (U3.trans hu4).trans hu5
  have hol4 := ownsRow_up hol hu4
  have s4 := hu4.size
  have s5 := hu5.size
  have hU4 : ∀ {wx : World} {u : Value}, OwnStep w5 pv wx u → Up w4 wx := fun h => hu5.step h.g (fun k hk => (hop.lt k hk).1)
  repeat (first | refine WL.move rfl rfl ?_ | refine WL.assign rfl rfl ?_ | refine W.seq ?_ | refine W.region ?_ | refine WL.nil ?_ | refine Post.next ?_ | refine Post.tail ?_ | refine W.cond_t rfl ?_ | refine W.cond_f rfl ?_ | refine W.block ?_ | refine W.skip ?_ | refine W.exit ?_ | refine W.ret ?_ | refine Post.block_exit ?_ | refine Post.block_other rfl ?_ | refine Post.then_exit ?_ | refine Post.then_ret ?_ | refine Post.block_ret ?_ | refine Post.block_normal ?_ | refine WL.lenS (tyS rfl) rfl rfl ?_ | refine WL.lenStr und9 rfl rfl ?_ | refine WL.fieldAddr (tyF rfl) rfl rfl ?_ | refine WL.not rfl rfl ?_ | refine WL.pick_t rfl rfl rfl ?_ | refine WL.pick_f rfl rfl rfl ?_ | refine WL.want rfl rfl ?_ | refine WL.skip rfl rfl rfl rfl ?_ | refine WL.extract rfl rfl rfl ?_)
  refine WL.alloc zero53 rfl ?_
  intro wa hga hza hra
  refine ⟨trivial, ?_⟩
  have hra' : Row wa w5.heap.size (intsC (List.replicate 256 0)) 53 := by unfold intsC; rw [List.map_replicate]; exact hra
  have hsta : OwnStep w5 pv wa pv := (OwnStep.refl w5 pv).none hga
  have hopa := ownsRow_up hop (Up.grown hga)
  obtain ⟨al, cl, hlv, hls0, hlc⟩ := IntsV_own hol4
  subst hlv
  generalize hgd : w5.heap.size = g at *
  repeat (first | refine WL.move rfl rfl ?_ | refine WL.assign rfl rfl ?_ | refine W.seq ?_ | refine W.region ?_ | refine WL.nil ?_ | refine Post.next ?_ | refine Post.tail ?_ | refine W.cond_t rfl ?_ | refine W.cond_f rfl ?_ | refine W.block ?_ | refine W.skip ?_ | refine W.exit ?_ | refine W.ret ?_ | refine Post.block_exit ?_ | refine Post.block_other rfl ?_ | refine Post.then_exit ?_ | refine Post.then_ret ?_ | refine Post.block_ret ?_ | refine Post.block_normal ?_ | refine WL.lenS (tyS rfl) rfl rfl ?_ | refine WL.lenStr und9 rfl rfl ?_ | refine WL.fieldAddr (tyF rfl) rfl rfl ?_ | refine WL.not rfl rfl ?_ | refine WL.pick_t rfl rfl rfl ?_ | refine WL.pick_f rfl rfl rfl ?_ | refine WL.want rfl rfl ?_ | refine WL.skip rfl rfl rfl rfl ?_ | refine WL.extract rfl rfl rfl ?_)
  refine W.loop7 (fun (j d z : Nat) (_ _ _ : List Int) (u : Value) => [(0, dv), (1, .slice al ls.length cl), (2, sv), (3, .int .i64 used), (11, u), (12, .pointer (some ⟨g, 0, none⟩)), (13, .int .i64 d), (14, .int .i64 z), (15, .int .i64 j)])
    (fun j d z S A cs u wx => j ≤ ls.length ∧ RSt used j S A d ∧ z ≤ j ∧ cs ++ encG used ((ls.map fun x => sq x.toNat).drop j) (A ++ List.replicate (256 - used) 0) z = ds ++ encG used (ls.map fun x => sq x.toNat) (list0 used) 0 ∧ cs.length + z ≤ ds.length + 2 * j ∧ Row wx g (intsC S) 53 ∧ wx.ownsRow w4.heap.size 42 1 u cs.length (cs.map (Value.int .u16)) ∧ OwnStep w5 pv wx u)
    (fun j _ _ _ _ _ _ => ls.length - j) 0 0 0 (List.replicate 256 0) (iotaL used) ds pv ⟨rfl, rfl, rfl, rfl, rfl, rfl, rfl, rfl, rfl, trivial⟩
    ⟨by omega, RSt.start used, by omega, rfl, by omega, hra', hopa, hsta⟩ ?_
  rintro j d z S A cs u wx ⟨hj, hR, hz, heq, hlen, hrow, ho, hst⟩
  have hSl := hR.len
  obtain ⟨hAl, hdk⟩ := hR.dle
  repeat (first | refine WL.move rfl rfl ?_ | refine WL.assign rfl rfl ?_ | refine W.seq ?_ | refine W.region ?_ | refine WL.nil ?_ | refine Post.next ?_ | refine Post.tail ?_ | refine W.cond_t rfl ?_ | refine W.cond_f rfl ?_ | refine W.block ?_ | refine W.skip ?_ | refine W.exit ?_ | refine W.ret ?_ | refine Post.block_exit ?_ | refine Post.block_other rfl ?_ | refine Post.then_exit ?_ | refine Post.then_ret ?_ | refine Post.block_ret ?_ | refine Post.block_normal ?_ | refine WL.lenS (tyS rfl) rfl rfl ?_ | refine WL.lenStr und9 rfl rfl ?_ | refine WL.fieldAddr (tyF rfl) rfl rfl ?_ | refine WL.not rfl rfl ?_ | refine WL.pick_t rfl rfl rfl ?_ | refine WL.pick_f rfl rfl rfl ?_ | refine WL.want rfl rfl ?_ | refine WL.skip rfl rfl rfl rfl ?_ | refine WL.extract rfl rfl rfl ?_)
  refine WL.lss rfl rfl rfl (fun hlt => ?_) (fun hge => ?_)
  · have hj' : j < ls.length := by omega
    have hud := (hU4 hst).trans (Up.drew wx)
    obtain ⟨bl, ol, el, hlcell⟩ := (hls0.up hud).get hj'
    cases el
    obtain ⟨gs, es, _, hsrow⟩ := hsr (by intro e; subst e; simp at hj')
    subst es
    have hm := List.getElem_mem hj'
    obtain ⟨hb0, hb1⟩ := hb _ hm
    obtain ⟨hr0, hr1⟩ := hrk _ hm
    have hcc := hud.cell (hsrow.cell (seqC_at sq (c := (ls[j]).toNat) (by omega)))
    have hdrop : (ls.map fun x => sq x.toNat).drop j = sq (ls[j]).toNat :: (ls.map fun x => sq x.toNat).drop (j + 1) := by
      rw [List.drop_eq_getElem_cons (by simpa using hj')]; simp
    obtain ⟨s, hs⟩ : ∃ s : Nat, sq (ls[j]).toNat = (s : Int) := ⟨(sq (ls[j]).toNat).toNat, by omega⟩
    have hsk : s < used := by omega
    rw [hdrop, hs] at heq
    rw [hs] at hcc
    have hsA : (s : Int) ∈ A := hR.mem.2 (by omega)
    have hpos := hR.pos hsk
    have hstep := hR.step hsk (by omega)
    have hss := sn_at (S := S) (v := s) (by omega)
    have hcs : (intsC S)[s]? = some (.int .i64 (sn S s)) := by rw [hss]; exact intsC_get (by omega)
    repeat (first | refine WL.move rfl rfl ?_ | refine WL.assign rfl rfl ?_ | refine W.seq ?_ | refine W.region ?_ | refine WL.nil ?_ | refine Post.next ?_ | refine Post.tail ?_ | refine W.cond_t rfl ?_ | refine W.cond_f rfl ?_ | refine W.block ?_ | refine W.skip ?_ | refine W.exit ?_ | refine W.ret ?_ | refine Post.block_exit ?_ | refine Post.block_other rfl ?_ | refine Post.then_exit ?_ | refine Post.then_ret ?_ | refine Post.block_ret ?_ | refine Post.block_normal ?_ | refine WL.lenS (tyS rfl) rfl rfl ?_ | refine WL.lenStr und9 rfl rfl ?_ | refine WL.fieldAddr (tyF rfl) rfl rfl ?_ | refine WL.not rfl rfl ?_ | refine WL.pick_t rfl rfl rfl ?_ | refine WL.pick_f rfl rfl rfl ?_ | refine WL.want rfl rfl ?_ | refine WL.skip rfl rfl rfl rfl ?_ | refine WL.extract rfl rfl rfl ?_)
    refine W.region_q mixed (by kernel_rfl) ?_
    repeat (first | refine WL.move rfl rfl ?_ | refine WL.assign rfl rfl ?_ | refine W.seq ?_ | refine W.region ?_ | refine WL.nil ?_ | refine Post.next ?_ | refine Post.tail ?_ | refine W.cond_t rfl ?_ | refine W.cond_f rfl ?_ | refine W.block ?_ | refine W.skip ?_ | refine W.exit ?_ | refine W.ret ?_ | refine Post.block_exit ?_ | refine Post.block_other rfl ?_ | refine Post.then_exit ?_ | refine Post.then_ret ?_ | refine Post.block_ret ?_ | refine Post.block_normal ?_ | refine WL.lenS (tyS rfl) rfl rfl ?_ | refine WL.lenStr und9 rfl rfl ?_ | refine WL.fieldAddr (tyF rfl) rfl rfl ?_ | refine WL.not rfl rfl ?_ | refine WL.pick_t rfl rfl rfl ?_ | refine WL.pick_f rfl rfl rfl ?_ | refine WL.want rfl rfl ?_ | refine WL.skip rfl rfl rfl rfl ?_ | refine WL.extract rfl rfl rfl ?_ | refine WL.addI rfl rfl (by omega) rfl ?_ | refine WL.subI rfl rfl (by omega) rfl ?_ | refine WL.indexS (tyS rfl) rfl rfl (by omega) rfl ?_ | refine WL.indexA (tyR rfl) rfl rfl (by omega) rfl ?_)
    refine WL.load (o' := ol + j) (tyP rfl) rfl (fun _ e => e) (hlcell j hj') (by first | omega | (simp; done) | (simp; omega)) rfl ?_
    refine WL.nilCheck rfl rfl ?_
    repeat (first | refine WL.move rfl rfl ?_ | refine WL.assign rfl rfl ?_ | refine W.seq ?_ | refine W.region ?_ | refine WL.nil ?_ | refine Post.next ?_ | refine Post.tail ?_ | refine W.cond_t rfl ?_ | refine W.cond_f rfl ?_ | refine W.block ?_ | refine W.skip ?_ | refine W.exit ?_ | refine W.ret ?_ | refine Post.block_exit ?_ | refine Post.block_other rfl ?_ | refine Post.then_exit ?_ | refine Post.then_ret ?_ | refine Post.block_ret ?_ | refine Post.block_normal ?_ | refine WL.lenS (tyS rfl) rfl rfl ?_ | refine WL.lenStr und9 rfl rfl ?_ | refine WL.fieldAddr (tyF rfl) rfl rfl ?_ | refine WL.not rfl rfl ?_ | refine WL.pick_t rfl rfl rfl ?_ | refine WL.pick_f rfl rfl rfl ?_ | refine WL.want rfl rfl ?_ | refine WL.skip rfl rfl rfl rfl ?_ | refine WL.extract rfl rfl rfl ?_ | refine WL.addI rfl rfl (by omega) rfl ?_ | refine WL.subI rfl rfl (by omega) rfl ?_ | refine WL.indexS (tyS rfl) rfl rfl (by omega) rfl ?_ | refine WL.indexA (tyR rfl) rfl rfl (by omega) rfl ?_)
    refine WL.load (o' := (ls[j]).toNat) (tyP rfl) rfl (fun _ e => e) hcc (by first | omega | (simp; done) | (simp; omega)) rfl ?_
    refine WL.conv' (kd' := .i64) (tyI rfl) (tyI rfl) rfl (i64w (by omega) (by omega)) rfl ?_
    repeat (first | refine WL.move rfl rfl ?_ | refine WL.assign rfl rfl ?_ | refine W.region ?_ | refine WL.nil ?_ | refine Post.next ?_ | refine Post.tail ?_ | refine W.cond_t rfl ?_ | refine W.cond_f rfl ?_ | refine W.block ?_ | refine W.skip ?_ | refine W.exit ?_ | refine W.ret ?_ | refine Post.block_exit ?_ | refine Post.block_other rfl ?_ | refine Post.then_exit ?_ | refine Post.then_ret ?_ | refine Post.block_ret ?_ | refine Post.block_normal ?_ | refine WL.lenS (tyS rfl) rfl rfl ?_ | refine WL.lenStr und9 rfl rfl ?_ | refine WL.fieldAddr (tyF rfl) rfl rfl ?_ | refine WL.not rfl rfl ?_ | refine WL.pick_t rfl rfl rfl ?_ | refine WL.pick_f rfl rfl rfl ?_ | refine WL.want rfl rfl ?_ | refine WL.skip rfl rfl rfl rfl ?_ | refine WL.extract rfl rfl rfl ?_)
    (refine W.seq ?_; repeat (first | refine WL.move rfl rfl ?_ | refine WL.assign rfl rfl ?_ | refine W.region ?_ | refine WL.nil ?_ | refine Post.next ?_ | refine Post.tail ?_ | refine W.cond_t rfl ?_ | refine W.cond_f rfl ?_ | refine W.block ?_ | refine W.skip ?_ | refine W.exit ?_ | refine W.ret ?_ | refine Post.block_exit ?_ | refine Post.block_other rfl ?_ | refine Post.then_exit ?_ | refine Post.then_ret ?_ | refine Post.block_ret ?_ | refine Post.block_normal ?_ | refine WL.lenS (tyS rfl) rfl rfl ?_ | refine WL.lenStr und9 rfl rfl ?_ | refine WL.fieldAddr (tyF rfl) rfl rfl ?_ | refine WL.not rfl rfl ?_ | refine WL.pick_t rfl rfl rfl ?_ | refine WL.pick_f rfl rfl rfl ?_ | refine WL.want rfl rfl ?_ | refine WL.skip rfl rfl rfl rfl ?_ | refine WL.extract rfl rfl rfl ?_))
    have hrowd := hrow.up (Up.drew wx)
    refine W.seq_joinE (fun (q : Nat × Nat) => [(0, dv), (1, .slice (some ⟨bl, ol, none⟩) ls.length cl), (2, .pointer (some ⟨gs, 0, none⟩)), (3, .int .i64 used), (11, u), (12, .pointer (some ⟨g, 0, none⟩)), (13, .int .i64 q.1), (14, .int .i64 z), (15, .int .i64 j), (16, .int .i64 s), (17, .int .i64 q.2)])
      (fun q w' => q.1 = (if 0 < sn S s then d else d + 1) ∧ q.2 = posL s A ∧ Up wx w') ?_ ?_
    · repeat (first | refine WL.move rfl rfl ?_ | refine WL.assign rfl rfl ?_ | refine W.seq ?_ | refine W.region ?_ | refine WL.nil ?_ | refine Post.next ?_ | refine Post.tail ?_ | refine W.cond_t rfl ?_ | refine W.cond_f rfl ?_ | refine W.block ?_ | refine W.skip ?_ | refine W.exit ?_ | refine W.ret ?_ | refine Post.block_exit ?_ | refine Post.block_other rfl ?_ | refine Post.then_exit ?_ | refine Post.then_ret ?_ | refine Post.block_ret ?_ | refine Post.block_normal ?_ | refine WL.lenS (tyS rfl) rfl rfl ?_ | refine WL.lenStr und9 rfl rfl ?_ | refine WL.fieldAddr (tyF rfl) rfl rfl ?_ | refine WL.not rfl rfl ?_ | refine WL.pick_t rfl rfl rfl ?_ | refine WL.pick_f rfl rfl rfl ?_ | refine WL.want rfl rfl ?_ | refine WL.skip rfl rfl rfl rfl ?_ | refine WL.extract rfl rfl rfl ?_ | refine WL.addI rfl rfl (by omega) rfl ?_ | refine WL.subI rfl rfl (by omega) rfl ?_ | refine WL.indexS (tyS rfl) rfl rfl (by omega) rfl ?_ | refine WL.indexA (tyR rfl) rfl rfl (by omega) rfl ?_)
      refine WL.load (o' := s) (tyP rfl) rfl (fun _ e => e) (hrowd.cell hcs) (by first | omega | (simp; done) | (simp; omega)) rfl ?_
      repeat (first | refine WL.move rfl rfl ?_ | refine WL.assign rfl rfl ?_ | refine W.seq ?_ | refine W.region ?_ | refine WL.nil ?_ | refine Post.next ?_ | refine Post.tail ?_ | refine W.cond_t rfl ?_ | refine W.cond_f rfl ?_ | refine W.block ?_ | refine W.skip ?_ | refine W.exit ?_ | refine W.ret ?_ | refine Post.block_exit ?_ | refine Post.block_other rfl ?_ | refine Post.then_exit ?_ | refine Post.then_ret ?_ | refine Post.block_ret ?_ | refine Post.block_normal ?_ | refine WL.lenS (tyS rfl) rfl rfl ?_ | refine WL.lenStr und9 rfl rfl ?_ | refine WL.fieldAddr (tyF rfl) rfl rfl ?_ | refine WL.not rfl rfl ?_ | refine WL.pick_t rfl rfl rfl ?_ | refine WL.pick_f rfl rfl rfl ?_ | refine WL.want rfl rfl ?_ | refine WL.skip rfl rfl rfl rfl ?_ | refine WL.extract rfl rfl rfl ?_)
      refine WL.gtr rfl rfl rfl (fun hsp => ?_) (fun hsz => ?_)
      · rw [if_pos hsp] at hpos
        repeat (first | refine WL.move rfl rfl ?_ | refine WL.assign rfl rfl ?_ | refine W.seq ?_ | refine W.region ?_ | refine WL.nil ?_ | refine Post.next ?_ | refine Post.tail ?_ | refine W.cond_t rfl ?_ | refine W.cond_f rfl ?_ | refine W.block ?_ | refine W.skip ?_ | refine W.exit ?_ | refine W.ret ?_ | refine Post.block_exit ?_ | refine Post.block_other rfl ?_ | refine Post.then_exit ?_ | refine Post.then_ret ?_ | refine Post.block_ret ?_ | refine Post.block_normal ?_ | refine WL.lenS (tyS rfl) rfl rfl ?_ | refine WL.lenStr und9 rfl rfl ?_ | refine WL.fieldAddr (tyF rfl) rfl rfl ?_ | refine WL.not rfl rfl ?_ | refine WL.pick_t rfl rfl rfl ?_ | refine WL.pick_f rfl rfl rfl ?_ | refine WL.want rfl rfl ?_ | refine WL.skip rfl rfl rfl rfl ?_ | refine WL.extract rfl rfl rfl ?_)
        refine W.loop2 (fun (v c : Nat) => [(0, dv), (1, .slice (some ⟨bl, ol, none⟩) ls.length cl), (2, .pointer (some ⟨gs, 0, none⟩)), (3, .int .i64 used), (11, u), (12, .pointer (some ⟨g, 0, none⟩)), (13, .int .i64 d), (14, .int .i64 z), (15, .int .i64 j), (16, .int .i64 s), (17, .int .i64 c), (18, .int .i64 v)])
          (fun v c wv => v ≤ used ∧ c = cnt (fun v => decide (sn S s < sn S v)) v ∧ Up wx wv) (fun v _ => used - v) 0 0 ⟨rfl, rfl, rfl, rfl, rfl, rfl, rfl, rfl, rfl, rfl, rfl, rfl, trivial⟩ ⟨by omega, rfl, Up.drew wx⟩ ?_
        rintro v c wv ⟨hv, hc, huv⟩
        have hcl' := cnt_le (fun v => decide (sn S s < sn S v)) v
        repeat (first | refine WL.move rfl rfl ?_ | refine WL.assign rfl rfl ?_ | refine W.seq ?_ | refine W.region ?_ | refine WL.nil ?_ | refine Post.next ?_ | refine Post.tail ?_ | refine W.cond_t rfl ?_ | refine W.cond_f rfl ?_ | refine W.block ?_ | refine W.skip ?_ | refine W.exit ?_ | refine W.ret ?_ | refine Post.block_exit ?_ | refine Post.block_other rfl ?_ | refine Post.then_exit ?_ | refine Post.then_ret ?_ | refine Post.block_ret ?_ | refine Post.block_normal ?_ | refine WL.lenS (tyS rfl) rfl rfl ?_ | refine WL.lenStr und9 rfl rfl ?_ | refine WL.fieldAddr (tyF rfl) rfl rfl ?_ | refine WL.not rfl rfl ?_ | refine WL.pick_t rfl rfl rfl ?_ | refine WL.pick_f rfl rfl rfl ?_ | refine WL.want rfl rfl ?_ | refine WL.skip rfl rfl rfl rfl ?_ | refine WL.extract rfl rfl rfl ?_ | refine WL.addI rfl rfl (by omega) rfl ?_ | refine WL.subI rfl rfl (by omega) rfl ?_ | refine WL.indexS (tyS rfl) rfl rfl (by omega) rfl ?_ | refine WL.indexA (tyR rfl) rfl rfl (by omega) rfl ?_)
        refine WL.lss rfl rfl rfl (fun hlt2 => ?_) (fun hge2 => ?_)
        · have hudv := huv.trans (Up.drew wv)
          have hrv := hrow.up hudv
          have hvv := sn_at (S := S) (v := v) (by omega)
          have hcv : (intsC S)[v]? = some (.int .i64 (sn S v)) := by rw [hvv]; exact intsC_get (by omega)
          repeat (first | refine WL.move rfl rfl ?_ | refine WL.assign rfl rfl ?_ | refine W.seq ?_ | refine W.region ?_ | refine WL.nil ?_ | refine Post.next ?_ | refine Post.tail ?_ | refine W.cond_t rfl ?_ | refine W.cond_f rfl ?_ | refine W.block ?_ | refine W.skip ?_ | refine W.exit ?_ | refine W.ret ?_ | refine Post.block_exit ?_ | refine Post.block_other rfl ?_ | refine Post.then_exit ?_ | refine Post.then_ret ?_ | refine Post.block_ret ?_ | refine Post.block_normal ?_ | refine WL.lenS (tyS rfl) rfl rfl ?_ | refine WL.lenStr und9 rfl rfl ?_ | refine WL.fieldAddr (tyF rfl) rfl rfl ?_ | refine WL.not rfl rfl ?_ | refine WL.pick_t rfl rfl rfl ?_ | refine WL.pick_f rfl rfl rfl ?_ | refine WL.want rfl rfl ?_ | refine WL.skip rfl rfl rfl rfl ?_ | refine WL.extract rfl rfl rfl ?_)
          refine W.region_q mixed (by kernel_rfl) ?_
          repeat (first | refine WL.move rfl rfl ?_ | refine WL.assign rfl rfl ?_ | refine W.seq ?_ | refine W.region ?_ | refine WL.nil ?_ | refine Post.next ?_ | refine Post.tail ?_ | refine W.cond_t rfl ?_ | refine W.cond_f rfl ?_ | refine W.block ?_ | refine W.skip ?_ | refine W.exit ?_ | refine W.ret ?_ | refine Post.block_exit ?_ | refine Post.block_other rfl ?_ | refine Post.then_exit ?_ | refine Post.then_ret ?_ | refine Post.block_ret ?_ | refine Post.block_normal ?_ | refine WL.lenS (tyS rfl) rfl rfl ?_ | refine WL.lenStr und9 rfl rfl ?_ | refine WL.fieldAddr (tyF rfl) rfl rfl ?_ | refine WL.not rfl rfl ?_ | refine WL.pick_t rfl rfl rfl ?_ | refine WL.pick_f rfl rfl rfl ?_ | refine WL.want rfl rfl ?_ | refine WL.skip rfl rfl rfl rfl ?_ | refine WL.extract rfl rfl rfl ?_ | refine WL.addI rfl rfl (by omega) rfl ?_ | refine WL.subI rfl rfl (by omega) rfl ?_ | refine WL.indexS (tyS rfl) rfl rfl (by omega) rfl ?_ | refine WL.indexA (tyR rfl) rfl rfl (by omega) rfl ?_)
          refine WL.load (o' := v) (tyP rfl) rfl (fun _ e => e) (hrv.cell hcv) (by first | omega | (simp; done) | (simp; omega)) rfl ?_
          repeat (first | refine WL.move rfl rfl ?_ | refine WL.assign rfl rfl ?_ | refine W.seq ?_ | refine W.region ?_ | refine WL.nil ?_ | refine Post.next ?_ | refine Post.tail ?_ | refine W.cond_t rfl ?_ | refine W.cond_f rfl ?_ | refine W.block ?_ | refine W.skip ?_ | refine W.exit ?_ | refine W.ret ?_ | refine Post.block_exit ?_ | refine Post.block_other rfl ?_ | refine Post.then_exit ?_ | refine Post.then_ret ?_ | refine Post.block_ret ?_ | refine Post.block_normal ?_ | refine WL.lenS (tyS rfl) rfl rfl ?_ | refine WL.lenStr und9 rfl rfl ?_ | refine WL.fieldAddr (tyF rfl) rfl rfl ?_ | refine WL.not rfl rfl ?_ | refine WL.pick_t rfl rfl rfl ?_ | refine WL.pick_f rfl rfl rfl ?_ | refine WL.want rfl rfl ?_ | refine WL.skip rfl rfl rfl rfl ?_ | refine WL.extract rfl rfl rfl ?_ | refine WL.addI rfl rfl (by omega) rfl ?_ | refine WL.subI rfl rfl (by omega) rfl ?_ | refine WL.indexS (tyS rfl) rfl rfl (by omega) rfl ?_ | refine WL.indexA (tyR rfl) rfl rfl (by omega) rfl ?_)
          refine WL.load (o' := s) (tyP rfl) rfl (fun _ e => e) (hrv.cell hcs) (by first | omega | (simp; done) | (simp; omega)) rfl ?_
          repeat (first | refine WL.move rfl rfl ?_ | refine WL.assign rfl rfl ?_ | refine W.seq ?_ | refine W.region ?_ | refine WL.nil ?_ | refine Post.next ?_ | refine Post.tail ?_ | refine W.cond_t rfl ?_ | refine W.cond_f rfl ?_ | refine W.block ?_ | refine W.skip ?_ | refine W.exit ?_ | refine W.ret ?_ | refine Post.block_exit ?_ | refine Post.block_other rfl ?_ | refine Post.then_exit ?_ | refine Post.then_ret ?_ | refine Post.block_ret ?_ | refine Post.block_normal ?_ | refine WL.lenS (tyS rfl) rfl rfl ?_ | refine WL.lenStr und9 rfl rfl ?_ | refine WL.fieldAddr (tyF rfl) rfl rfl ?_ | refine WL.not rfl rfl ?_ | refine WL.pick_t rfl rfl rfl ?_ | refine WL.pick_f rfl rfl rfl ?_ | refine WL.want rfl rfl ?_ | refine WL.skip rfl rfl rfl rfl ?_ | refine WL.extract rfl rfl rfl ?_)
          refine WL.gtr rfl rfl rfl (fun hg1 => ?_) (fun hg2 => ?_)
          · have hc' : c + 1 = cnt (fun v => decide (sn S s < sn S v)) (v + 1) := by rw [cnt, ← hc]; simp [hg1]
            repeat (first | refine WL.move rfl rfl ?_ | refine WL.assign rfl rfl ?_ | refine W.seq ?_ | refine W.region ?_ | refine WL.nil ?_ | refine Post.next ?_ | refine Post.tail ?_ | refine W.cond_t rfl ?_ | refine W.cond_f rfl ?_ | refine W.block ?_ | refine W.skip ?_ | refine W.exit ?_ | refine W.ret ?_ | refine Post.block_exit ?_ | refine Post.block_other rfl ?_ | refine Post.then_exit ?_ | refine Post.then_ret ?_ | refine Post.block_ret ?_ | refine Post.block_normal ?_ | refine WL.lenS (tyS rfl) rfl rfl ?_ | refine WL.lenStr und9 rfl rfl ?_ | refine WL.fieldAddr (tyF rfl) rfl rfl ?_ | refine WL.not rfl rfl ?_ | refine WL.pick_t rfl rfl rfl ?_ | refine WL.pick_f rfl rfl rfl ?_ | refine WL.want rfl rfl ?_ | refine WL.skip rfl rfl rfl rfl ?_ | refine WL.extract rfl rfl rfl ?_ | refine WL.addI rfl rfl (by omega) rfl ?_ | refine WL.subI rfl rfl (by omega) rfl ?_ | refine WL.indexS (tyS rfl) rfl rfl (by omega) rfl ?_ | refine WL.indexA (tyR rfl) rfl rfl (by omega) rfl ?_)
            exact Post.round2 (v + 1) (c + 1) ⟨rfl, rfl, rfl, rfl, rfl, rfl, rfl, rfl, rfl, rfl, (by first | rfl | (simp [look]; done) | (simp [look]; omega)), (by first | rfl | (simp [look]; done) | (simp [look]; omega)), trivial⟩ ⟨by omega, hc', hudv⟩ (by omega)
          · have hc' : c = cnt (fun v => decide (sn S s < sn S v)) (v + 1) := by
              have : ¬ sn S s < sn S v := by omega
              rw [cnt, ← hc]; simp [this]
            repeat (first | refine WL.move rfl rfl ?_ | refine WL.assign rfl rfl ?_ | refine W.seq ?_ | refine W.region ?_ | refine WL.nil ?_ | refine Post.next ?_ | refine Post.tail ?_ | refine W.cond_t rfl ?_ | refine W.cond_f rfl ?_ | refine W.block ?_ | refine W.skip ?_ | refine W.exit ?_ | refine W.ret ?_ | refine Post.block_exit ?_ | refine Post.block_other rfl ?_ | refine Post.then_exit ?_ | refine Post.then_ret ?_ | refine Post.block_ret ?_ | refine Post.block_normal ?_ | refine WL.lenS (tyS rfl) rfl rfl ?_ | refine WL.lenStr und9 rfl rfl ?_ | refine WL.fieldAddr (tyF rfl) rfl rfl ?_ | refine WL.not rfl rfl ?_ | refine WL.pick_t rfl rfl rfl ?_ | refine WL.pick_f rfl rfl rfl ?_ | refine WL.want rfl rfl ?_ | refine WL.skip rfl rfl rfl rfl ?_ | refine WL.extract rfl rfl rfl ?_ | refine WL.addI rfl rfl (by omega) rfl ?_ | refine WL.subI rfl rfl (by omega) rfl ?_ | refine WL.indexS (tyS rfl) rfl rfl (by omega) rfl ?_ | refine WL.indexA (tyR rfl) rfl rfl (by omega) rfl ?_)
            exact Post.round2 (v + 1) c ⟨rfl, rfl, rfl, rfl, rfl, rfl, rfl, rfl, rfl, rfl, rfl, (by first | rfl | (simp [look]; done) | (simp [look]; omega)), trivial⟩ ⟨by omega, hc', hudv⟩ (by omega)
        · have hvk : v = used := by omega
          subst hvk
          repeat (first | refine WL.move rfl rfl ?_ | refine WL.assign rfl rfl ?_ | refine W.seq ?_ | refine W.region ?_ | refine WL.nil ?_ | refine Post.next ?_ | refine Post.tail ?_ | refine W.cond_t rfl ?_ | refine W.cond_f rfl ?_ | refine W.block ?_ | refine W.skip ?_ | refine W.exit ?_ | refine W.ret ?_ | refine Post.block_exit ?_ | refine Post.block_other rfl ?_ | refine Post.then_exit ?_ | refine Post.then_ret ?_ | refine Post.block_ret ?_ | refine Post.block_normal ?_ | refine WL.lenS (tyS rfl) rfl rfl ?_ | refine WL.lenStr und9 rfl rfl ?_ | refine WL.fieldAddr (tyF rfl) rfl rfl ?_ | refine WL.not rfl rfl ?_ | refine WL.pick_t rfl rfl rfl ?_ | refine WL.pick_f rfl rfl rfl ?_ | refine WL.want rfl rfl ?_ | refine WL.skip rfl rfl rfl rfl ?_ | refine WL.extract rfl rfl rfl ?_)
          exact Post.joinE (d, c) ⟨rfl, rfl, rfl, rfl, rfl, rfl, rfl, rfl, rfl, rfl, rfl, trivial⟩ ⟨by rw [if_pos hsp], by rw [hpos]; exact hc, huv⟩
      · have hns : ¬ 0 < sn S s := by omega
        rw [if_neg hns] at hpos
        repeat (first | refine WL.move rfl rfl ?_ | refine WL.assign rfl rfl ?_ | refine W.seq ?_ | refine W.region ?_ | refine WL.nil ?_ | refine Post.next ?_ | refine Post.tail ?_ | refine W.cond_t rfl ?_ | refine W.cond_f rfl ?_ | refine W.block ?_ | refine W.skip ?_ | refine W.exit ?_ | refine W.ret ?_ | refine Post.block_exit ?_ | refine Post.block_other rfl ?_ | refine Post.then_exit ?_ | refine Post.then_ret ?_ | refine Post.block_ret ?_ | refine Post.block_normal ?_ | refine WL.lenS (tyS rfl) rfl rfl ?_ | refine WL.lenStr und9 rfl rfl ?_ | refine WL.fieldAddr (tyF rfl) rfl rfl ?_ | refine WL.not rfl rfl ?_ | refine WL.pick_t rfl rfl rfl ?_ | refine WL.pick_f rfl rfl rfl ?_ | refine WL.want rfl rfl ?_ | refine WL.skip rfl rfl rfl rfl ?_ | refine WL.extract rfl rfl rfl ?_)
        refine W.loop2 (fun (v c : Nat) => [(0, dv), (1, .slice (some ⟨bl, ol, none⟩) ls.length cl), (2, .pointer (some ⟨gs, 0, none⟩)), (3, .int .i64 used), (11, u), (12, .pointer (some ⟨g, 0, none⟩)), (13, .int .i64 d), (14, .int .i64 z), (15, .int .i64 j), (16, .int .i64 s), (17, .int .i64 c), (19, .int .i64 v)])
          (fun v c wv => v ≤ s ∧ c = d + cnt (fun v => decide (sn S v = 0)) v ∧ Up wx wv) (fun v _ => s - v) 0 d ⟨rfl, rfl, rfl, rfl, rfl, rfl, rfl, rfl, rfl, rfl, rfl, rfl, trivial⟩ ⟨by omega, rfl, Up.drew wx⟩ ?_
        rintro v c wv ⟨hv, hc, huv⟩
        have hcl' := cnt_le (fun v => decide (sn S v = 0)) v
        repeat (first | refine WL.move rfl rfl ?_ | refine WL.assign rfl rfl ?_ | refine W.seq ?_ | refine W.region ?_ | refine WL.nil ?_ | refine Post.next ?_ | refine Post.tail ?_ | refine W.cond_t rfl ?_ | refine W.cond_f rfl ?_ | refine W.block ?_ | refine W.skip ?_ | refine W.exit ?_ | refine W.ret ?_ | refine Post.block_exit ?_ | refine Post.block_other rfl ?_ | refine Post.then_exit ?_ | refine Post.then_ret ?_ | refine Post.block_ret ?_ | refine Post.block_normal ?_ | refine WL.lenS (tyS rfl) rfl rfl ?_ | refine WL.lenStr und9 rfl rfl ?_ | refine WL.fieldAddr (tyF rfl) rfl rfl ?_ | refine WL.not rfl rfl ?_ | refine WL.pick_t rfl rfl rfl ?_ | refine WL.pick_f rfl rfl rfl ?_ | refine WL.want rfl rfl ?_ | refine WL.skip rfl rfl rfl rfl ?_ | refine WL.extract rfl rfl rfl ?_ | refine WL.addI rfl rfl (by omega) rfl ?_ | refine WL.subI rfl rfl (by omega) rfl ?_ | refine WL.indexS (tyS rfl) rfl rfl (by omega) rfl ?_ | refine WL.indexA (tyR rfl) rfl rfl (by omega) rfl ?_)
        refine WL.lss rfl rfl rfl (fun hlt2 => ?_) (fun hge2 => ?_)
        · have hrv := hrow.up huv
          have hvv := sn_at (S := S) (v := v) (by omega)
          have hcv : (intsC S)[v]? = some (.int .i64 (sn S v)) := by rw [hvv]; exact intsC_get (by omega)
          repeat (first | refine WL.move rfl rfl ?_ | refine WL.assign rfl rfl ?_ | refine W.seq ?_ | refine W.region ?_ | refine WL.nil ?_ | refine Post.next ?_ | refine Post.tail ?_ | refine W.cond_t rfl ?_ | refine W.cond_f rfl ?_ | refine W.block ?_ | refine W.skip ?_ | refine W.exit ?_ | refine W.ret ?_ | refine Post.block_exit ?_ | refine Post.block_other rfl ?_ | refine Post.then_exit ?_ | refine Post.then_ret ?_ | refine Post.block_ret ?_ | refine Post.block_normal ?_ | refine WL.lenS (tyS rfl) rfl rfl ?_ | refine WL.lenStr und9 rfl rfl ?_ | refine WL.fieldAddr (tyF rfl) rfl rfl ?_ | refine WL.not rfl rfl ?_ | refine WL.pick_t rfl rfl rfl ?_ | refine WL.pick_f rfl rfl rfl ?_ | refine WL.want rfl rfl ?_ | refine WL.skip rfl rfl rfl rfl ?_ | refine WL.extract rfl rfl rfl ?_ | refine WL.addI rfl rfl (by omega) rfl ?_ | refine WL.subI rfl rfl (by omega) rfl ?_ | refine WL.indexS (tyS rfl) rfl rfl (by omega) rfl ?_ | refine WL.indexA (tyR rfl) rfl rfl (by omega) rfl ?_)
          refine WL.load (o' := v) (tyP rfl) rfl (fun _ e => e) (hrv.cell hcv) (by first | omega | (simp; done) | (simp; omega)) rfl ?_
          repeat (first | refine WL.move rfl rfl ?_ | refine WL.assign rfl rfl ?_ | refine W.seq ?_ | refine W.region ?_ | refine WL.nil ?_ | refine Post.next ?_ | refine Post.tail ?_ | refine W.cond_t rfl ?_ | refine W.cond_f rfl ?_ | refine W.block ?_ | refine W.skip ?_ | refine W.exit ?_ | refine W.ret ?_ | refine Post.block_exit ?_ | refine Post.block_other rfl ?_ | refine Post.then_exit ?_ | refine Post.then_ret ?_ | refine Post.block_ret ?_ | refine Post.block_normal ?_ | refine WL.lenS (tyS rfl) rfl rfl ?_ | refine WL.lenStr und9 rfl rfl ?_ | refine WL.fieldAddr (tyF rfl) rfl rfl ?_ | refine WL.not rfl rfl ?_ | refine WL.pick_t rfl rfl rfl ?_ | refine WL.pick_f rfl rfl rfl ?_ | refine WL.want rfl rfl ?_ | refine WL.skip rfl rfl rfl rfl ?_ | refine WL.extract rfl rfl rfl ?_)
          refine WL.eqI rfl rfl rfl (fun hg1 => ?_) (fun hg2 => ?_)
          · have hc' : c + 1 = d + cnt (fun v => decide (sn S v = 0)) (v + 1) := by rw [cnt, hc]; simp [hg1]; omega
            repeat (first | refine WL.move rfl rfl ?_ | refine WL.assign rfl rfl ?_ | refine W.seq ?_ | refine W.region ?_ | refine WL.nil ?_ | refine Post.next ?_ | refine Post.tail ?_ | refine W.cond_t rfl ?_ | refine W.cond_f rfl ?_ | refine W.block ?_ | refine W.skip ?_ | refine W.exit ?_ | refine W.ret ?_ | refine Post.block_exit ?_ | refine Post.block_other rfl ?_ | refine Post.then_exit ?_ | refine Post.then_ret ?_ | refine Post.block_ret ?_ | refine Post.block_normal ?_ | refine WL.lenS (tyS rfl) rfl rfl ?_ | refine WL.lenStr und9 rfl rfl ?_ | refine WL.fieldAddr (tyF rfl) rfl rfl ?_ | refine WL.not rfl rfl ?_ | refine WL.pick_t rfl rfl rfl ?_ | refine WL.pick_f rfl rfl rfl ?_ | refine WL.want rfl rfl ?_ | refine WL.skip rfl rfl rfl rfl ?_ | refine WL.extract rfl rfl rfl ?_ | refine WL.addI rfl rfl (by omega) rfl ?_ | refine WL.subI rfl rfl (by omega) rfl ?_ | refine WL.indexS (tyS rfl) rfl rfl (by omega) rfl ?_ | refine WL.indexA (tyR rfl) rfl rfl (by omega) rfl ?_)
            exact Post.round2 (v + 1) (c + 1) ⟨rfl, rfl, rfl, rfl, rfl, rfl, rfl, rfl, rfl, rfl, (by first | rfl | (simp [look]; done) | (simp [look]; omega)), (by first | rfl | (simp [look]; done) | (simp [look]; omega)), trivial⟩ ⟨by omega, hc', huv⟩ (by omega)
          · have hc' : c = d + cnt (fun v => decide (sn S v = 0)) (v + 1) := by rw [cnt, hc]; simp [hg2]
            repeat (first | refine WL.move rfl rfl ?_ | refine WL.assign rfl rfl ?_ | refine W.seq ?_ | refine W.region ?_ | refine WL.nil ?_ | refine Post.next ?_ | refine Post.tail ?_ | refine W.cond_t rfl ?_ | refine W.cond_f rfl ?_ | refine W.block ?_ | refine W.skip ?_ | refine W.exit ?_ | refine W.ret ?_ | refine Post.block_exit ?_ | refine Post.block_other rfl ?_ | refine Post.then_exit ?_ | refine Post.then_ret ?_ | refine Post.block_ret ?_ | refine Post.block_normal ?_ | refine WL.lenS (tyS rfl) rfl rfl ?_ | refine WL.lenStr und9 rfl rfl ?_ | refine WL.fieldAddr (tyF rfl) rfl rfl ?_ | refine WL.not rfl rfl ?_ | refine WL.pick_t rfl rfl rfl ?_ | refine WL.pick_f rfl rfl rfl ?_ | refine WL.want rfl rfl ?_ | refine WL.skip rfl rfl rfl rfl ?_ | refine WL.extract rfl rfl rfl ?_ | refine WL.addI rfl rfl (by omega) rfl ?_ | refine WL.subI rfl rfl (by omega) rfl ?_ | refine WL.indexS (tyS rfl) rfl rfl (by omega) rfl ?_ | refine WL.indexA (tyR rfl) rfl rfl (by omega) rfl ?_)
            exact Post.round2 (v + 1) c ⟨rfl, rfl, rfl, rfl, rfl, rfl, rfl, rfl, rfl, rfl, rfl, (by first | rfl | (simp [look]; done) | (simp [look]; omega)), trivial⟩ ⟨by omega, hc', huv⟩ (by omega)
        · have hvk : v = s := by omega
          subst hvk
          repeat (first | refine WL.move rfl rfl ?_ | refine WL.assign rfl rfl ?_ | refine W.seq ?_ | refine W.region ?_ | refine WL.nil ?_ | refine Post.next ?_ | refine Post.tail ?_ | refine W.cond_t rfl ?_ | refine W.cond_f rfl ?_ | refine W.block ?_ | refine W.skip ?_ | refine W.exit ?_ | refine W.ret ?_ | refine Post.block_exit ?_ | refine Post.block_other rfl ?_ | refine Post.then_exit ?_ | refine Post.then_ret ?_ | refine Post.block_ret ?_ | refine Post.block_normal ?_ | refine WL.lenS (tyS rfl) rfl rfl ?_ | refine WL.lenStr und9 rfl rfl ?_ | refine WL.fieldAddr (tyF rfl) rfl rfl ?_ | refine WL.not rfl rfl ?_ | refine WL.pick_t rfl rfl rfl ?_ | refine WL.pick_f rfl rfl rfl ?_ | refine WL.want rfl rfl ?_ | refine WL.skip rfl rfl rfl rfl ?_ | refine WL.extract rfl rfl rfl ?_ | refine WL.addI rfl rfl (by omega) rfl ?_ | refine WL.subI rfl rfl (by omega) rfl ?_ | refine WL.indexS (tyS rfl) rfl rfl (by omega) rfl ?_ | refine WL.indexA (tyR rfl) rfl rfl (by omega) rfl ?_)
          exact Post.joinE (d + 1, c) ⟨rfl, rfl, rfl, rfl, rfl, rfl, (by first | rfl | (simp [look]; done) | (simp [look]; omega)), rfl, rfl, rfl, rfl, trivial⟩ ⟨by rw [if_neg hns], by rw [hpos]; exact hc, huv⟩
    rintro ⟨d', p⟩ wj ⟨hd', hp, huj⟩
    simp only at hd' hp
    rw [← hd'] at hstep
    clear hpos
    have hrj := hrow.up huj
    have hoj := ownsRow_up ho huj
    have hstj := hst.none (grown_of_up huj)
    have sj := hstj.g.size
    obtain ⟨hoA, hpA⟩ := outL_append (Z := List.replicate (256 - used) 0) hsA
    have hpp := posL_app (Z := List.replicate (256 - used) 0) hsA
    rw [encG_pos used (List.mem_append_left _ hsA), hpp, hoA, ← hp] at heq
    rw [hpp, ← hp] at hpA
    repeat (first | refine WL.move rfl rfl ?_ | refine WL.assign rfl rfl ?_ | refine W.seq ?_ | refine W.region ?_ | refine WL.nil ?_ | refine Post.next ?_ | refine Post.tail ?_ | refine W.cond_t rfl ?_ | refine W.cond_f rfl ?_ | refine W.block ?_ | refine W.skip ?_ | refine W.exit ?_ | refine W.ret ?_ | refine Post.block_exit ?_ | refine Post.block_other rfl ?_ | refine Post.then_exit ?_ | refine Post.then_ret ?_ | refine Post.block_ret ?_ | refine Post.block_normal ?_ | refine WL.lenS (tyS rfl) rfl rfl ?_ | refine WL.lenStr und9 rfl rfl ?_ | refine WL.fieldAddr (tyF rfl) rfl rfl ?_ | refine WL.not rfl rfl ?_ | refine WL.pick_t rfl rfl rfl ?_ | refine WL.pick_f rfl rfl rfl ?_ | refine WL.want rfl rfl ?_ | refine WL.skip rfl rfl rfl rfl ?_ | refine WL.extract rfl rfl rfl ?_ | refine WL.addI rfl rfl (by omega) rfl ?_ | refine WL.subI rfl rfl (by omega) rfl ?_ | refine WL.indexS (tyS rfl) rfl rfl (by omega) rfl ?_ | refine WL.indexA (tyR rfl) rfl rfl (by omega) rfl ?_)
    refine WL.store (o' := s) (tyP rfl) rfl rfl rfl hrj (by first | omega | (simp; done) | (simp; omega)) (by simp only [intsC, List.length_map]; omega) ?_
    intro w7 hg7 hz7 hr7
    refine ⟨trivial, ?_⟩
    rw [spl_setI _ _ _ (by omega)] at hr7
    have ho7 := hoj.kept hg7 (.inr (own_ne_row hoj hrj (by decide)))
    have hst7 := hstj.new hg7 (by omega)
    repeat (first | refine WL.move rfl rfl ?_ | refine WL.assign rfl rfl ?_ | refine W.seq ?_ | refine W.region ?_ | refine WL.nil ?_ | refine Post.next ?_ | refine Post.tail ?_ | refine W.cond_t rfl ?_ | refine W.cond_f rfl ?_ | refine W.block ?_ | refine W.skip ?_ | refine W.exit ?_ | refine W.ret ?_ | refine Post.block_exit ?_ | refine Post.block_other rfl ?_ | refine Post.then_exit ?_ | refine Post.then_ret ?_ | refine Post.block_ret ?_ | refine Post.block_normal ?_ | refine WL.lenS (tyS rfl) rfl rfl ?_ | refine WL.lenStr und9 rfl rfl ?_ | refine WL.fieldAddr (tyF rfl) rfl rfl ?_ | refine WL.not rfl rfl ?_ | refine WL.pick_t rfl rfl rfl ?_ | refine WL.pick_f rfl rfl rfl ?_ | refine WL.want rfl rfl ?_ | refine WL.skip rfl rfl rfl rfl ?_ | refine WL.extract rfl rfl rfl ?_)
    refine WL.eqI rfl rfl rfl (fun he => ?_) (fun hne => ?_)
    · rw [if_pos (by omega)] at heq
      repeat (first | refine WL.move rfl rfl ?_ | refine WL.assign rfl rfl ?_ | refine W.seq ?_ | refine W.region ?_ | refine WL.nil ?_ | refine Post.next ?_ | refine Post.tail ?_ | refine W.cond_t rfl ?_ | refine W.cond_f rfl ?_ | refine W.block ?_ | refine W.skip ?_ | refine W.exit ?_ | refine W.ret ?_ | refine Post.block_exit ?_ | refine Post.block_other rfl ?_ | refine Post.then_exit ?_ | refine Post.then_ret ?_ | refine Post.block_ret ?_ | refine Post.block_normal ?_ | refine WL.lenS (tyS rfl) rfl rfl ?_ | refine WL.lenStr und9 rfl rfl ?_ | refine WL.fieldAddr (tyF rfl) rfl rfl ?_ | refine WL.not rfl rfl ?_ | refine WL.pick_t rfl rfl rfl ?_ | refine WL.pick_f rfl rfl rfl ?_ | refine WL.want rfl rfl ?_ | refine WL.skip rfl rfl rfl rfl ?_ | refine WL.extract rfl rfl rfl ?_ | refine WL.addI rfl rfl (by omega) rfl ?_ | refine WL.subI rfl rfl (by omega) rfl ?_ | refine WL.indexS (tyS rfl) rfl rfl (by omega) rfl ?_ | refine WL.indexA (tyR rfl) rfl rfl (by omega) rfl ?_)
      exact Post.round7 (j + 1) d' (z + 1) _ _ cs u ⟨rfl, rfl, rfl, rfl, rfl, rfl, rfl, (by first | rfl | (simp [look]; done) | (simp [look]; omega)), (by first | rfl | (simp [look]; done) | (simp [look]; omega)), trivial⟩ ⟨by omega, hstep, by omega, heq, by omega, hr7, ho7, hst7⟩ (by omega)
    · rw [if_neg (by omega)] at heq
      have s7 := hst7.g.size
      repeat (first | refine WL.move rfl rfl ?_ | refine WL.assign rfl rfl ?_ | refine W.seq ?_ | refine W.region ?_ | refine WL.nil ?_ | refine Post.next ?_ | refine Post.tail ?_ | refine W.cond_t rfl ?_ | refine W.cond_f rfl ?_ | refine W.block ?_ | refine W.skip ?_ | refine W.exit ?_ | refine W.ret ?_ | refine Post.block_exit ?_ | refine Post.block_other rfl ?_ | refine Post.then_exit ?_ | refine Post.then_ret ?_ | refine Post.block_ret ?_ | refine Post.block_normal ?_ | refine WL.lenS (tyS rfl) rfl rfl ?_ | refine WL.lenStr und9 rfl rfl ?_ | refine WL.fieldAddr (tyF rfl) rfl rfl ?_ | refine WL.not rfl rfl ?_ | refine WL.pick_t rfl rfl rfl ?_ | refine WL.pick_f rfl rfl rfl ?_ | refine WL.want rfl rfl ?_ | refine WL.skip rfl rfl rfl rfl ?_ | refine WL.extract rfl rfl rfl ?_)
      refine WL.call _ (fnT rfl) (args2 rfl rfl) (runModel_c w7 u cs z w4.heap.size ho7 (by omega) (by omega) (by omega)) (by rintro e w' ⟨_, rfl, _⟩; exact ⟨_, rfl⟩) rfl ?_
      rintro v w8 ⟨u1, hv, ho8, hst8⟩
      have hv := (Ending.returned.inj hv).symm
      subst hv
      refine ⟨trivial, ?_⟩
      have hr8 : Row w8 g (intsC (S.set s ((j : Int) + 1))) 53 := hr7.kept hst8.g (own_ne_row ho7 hr7 (by decide))
      have hrl := runD_len z z (Nat.le_refl _)
      have hst8' := hst7.trans hst8
      have hlen8 : (cs ++ runD z).length ≤ ds.length + 2 * j := by simp; omega
      rw [← List.append_assoc] at heq
      generalize hcs2 : cs ++ runD z = cs2 at *
      have hci : ((p : Int) + 1) = ((p + 1 : Nat) : Int) := by omega
      repeat (first | refine WL.move rfl rfl ?_ | refine WL.assign rfl rfl ?_ | refine W.seq ?_ | refine W.region ?_ | refine WL.nil ?_ | refine Post.next ?_ | refine Post.tail ?_ | refine W.cond_t rfl ?_ | refine W.cond_f rfl ?_ | refine W.block ?_ | refine W.skip ?_ | refine W.exit ?_ | refine W.ret ?_ | refine Post.block_exit ?_ | refine Post.block_other rfl ?_ | refine Post.then_exit ?_ | refine Post.then_ret ?_ | refine Post.block_ret ?_ | refine Post.block_normal ?_ | refine WL.lenS (tyS rfl) rfl rfl ?_ | refine WL.lenStr und9 rfl rfl ?_ | refine WL.fieldAddr (tyF rfl) rfl rfl ?_ | refine WL.not rfl rfl ?_ | refine WL.pick_t rfl rfl rfl ?_ | refine WL.pick_f rfl rfl rfl ?_ | refine WL.want rfl rfl ?_ | refine WL.skip rfl rfl rfl rfl ?_ | refine WL.extract rfl rfl rfl ?_ | refine WL.addI rfl rfl (by omega) rfl ?_ | refine WL.subI rfl rfl (by omega) rfl ?_ | refine WL.indexS (tyS rfl) rfl rfl (by omega) rfl ?_ | refine WL.indexA (tyR rfl) rfl rfl (by omega) rfl ?_)
      refine WL.conv' (kd' := .u16) (tyI rfl) (tyI rfl) rfl (u16w (by omega) (by omega)) rfl ?_
      refine WL.buildSlice1 make26 rfl rfl rfl ?_
      intro wb hgb hzb hrb
      refine ⟨trivial, ?_⟩
      have hob := ownsRow_up ho8 (Up.grown hgb)
      have hBb : w4.heap.size ≤ wb.heap.size := by have := hst8'.g.size; omega
      refine WL.appendL make26 rfl rfl hob hrb rfl (by simp [Value.oneCell']) (by omega) (by omega) hBb rfl ?_
      intro u' wc hoc hgc hlc' _
      refine ⟨trivial, ?_⟩
      have hrb8 := hr8.up (Up.grown hgb)
      rw [hci] at hoc
      repeat (first | refine WL.move rfl rfl ?_ | refine WL.assign rfl rfl ?_ | refine W.seq ?_ | refine W.region ?_ | refine WL.nil ?_ | refine Post.next ?_ | refine Post.tail ?_ | refine W.cond_t rfl ?_ | refine W.cond_f rfl ?_ | refine W.block ?_ | refine W.skip ?_ | refine W.exit ?_ | refine W.ret ?_ | refine Post.block_exit ?_ | refine Post.block_other rfl ?_ | refine Post.then_exit ?_ | refine Post.then_ret ?_ | refine Post.block_ret ?_ | refine Post.block_normal ?_ | refine WL.lenS (tyS rfl) rfl rfl ?_ | refine WL.lenStr und9 rfl rfl ?_ | refine WL.fieldAddr (tyF rfl) rfl rfl ?_ | refine WL.not rfl rfl ?_ | refine WL.pick_t rfl rfl rfl ?_ | refine WL.pick_f rfl rfl rfl ?_ | refine WL.want rfl rfl ?_ | refine WL.skip rfl rfl rfl rfl ?_ | refine WL.extract rfl rfl rfl ?_ | refine WL.addI rfl rfl (by omega) rfl ?_ | refine WL.subI rfl rfl (by omega) rfl ?_ | refine WL.indexS (tyS rfl) rfl rfl (by omega) rfl ?_ | refine WL.indexA (tyR rfl) rfl rfl (by omega) rfl ?_)
      refine Post.round7 (j + 1) d' 0 _ _ (cs2 ++ [((p + 1 : Nat) : Int)]) u' ⟨rfl, rfl, rfl, rfl, rfl, rfl, rfl, rfl, (by first | rfl | (simp [look]; done) | (simp [look]; omega)), trivial⟩ ⟨by omega, hstep, by omega, ?_, by simp; omega, hrb8.kept hgc (own_ne_row hob hrb8 (by decide)), own_int_snoc hoc, hst8'.app hgb hgc hlc'⟩ (by omega)
      rw [List.append_assoc, List.singleton_append]
      exact heq
  · have hjl : j = ls.length := by omega
    subst hjl
    rw [List.drop_of_length_le (by simp), encG] at heq
    have sx := hst.g.size
    repeat (first | refine WL.move rfl rfl ?_ | refine WL.assign rfl rfl ?_ | refine W.seq ?_ | refine W.region ?_ | refine WL.nil ?_ | refine Post.next ?_ | refine Post.tail ?_ | refine W.cond_t rfl ?_ | refine W.cond_f rfl ?_ | refine W.block ?_ | refine W.skip ?_ | refine W.exit ?_ | refine W.ret ?_ | refine Post.block_exit ?_ | refine Post.block_other rfl ?_ | refine Post.then_exit ?_ | refine Post.then_ret ?_ | refine Post.block_ret ?_ | refine Post.block_normal ?_ | refine WL.lenS (tyS rfl) rfl rfl ?_ | refine WL.lenStr und9 rfl rfl ?_ | refine WL.fieldAddr (tyF rfl) rfl rfl ?_ | refine WL.not rfl rfl ?_ | refine WL.pick_t rfl rfl rfl ?_ | refine WL.pick_f rfl rfl rfl ?_ | refine WL.want rfl rfl ?_ | refine WL.skip rfl rfl rfl rfl ?_ | refine WL.extract rfl rfl rfl ?_)
    refine WL.call _ (fnT rfl) (args2 rfl rfl) (runModel_c wx u cs z w4.heap.size ho (by omega) (by omega) (by omega)) (by rintro e w' ⟨_, rfl, _⟩; exact ⟨_, rfl⟩) rfl ?_
    rintro v w8 ⟨u1, hv, ho8, hst8⟩
    have hv := (Ending.returned.inj hv).symm
    subst hv
    refine ⟨trivial, ?_⟩
    have hrl := runD_len z z (Nat.le_refl _)
    have hst8' := hst.trans hst8
    have hlen8 : (cs ++ runD z).length ≤ ds.length + 2 * ls.length := by simp; omega
    rw [← List.append_assoc] at heq
    generalize hcs2 : cs ++ runD z = cs2 at *
    have hci : ((used : Int) + 1) = ((used + 1 : Nat) : Int) := by omega
    repeat (first | refine WL.move rfl rfl ?_ | refine WL.assign rfl rfl ?_ | refine W.seq ?_ | refine W.region ?_ | refine WL.nil ?_ | refine Post.next ?_ | refine Post.tail ?_ | refine W.cond_t rfl ?_ | refine W.cond_f rfl ?_ | refine W.block ?_ | refine W.skip ?_ | refine W.exit ?_ | refine W.ret ?_ | refine Post.block_exit ?_ | refine Post.block_other rfl ?_ | refine Post.then_exit ?_ | refine Post.then_ret ?_ | refine Post.block_ret ?_ | refine Post.block_normal ?_ | refine WL.lenS (tyS rfl) rfl rfl ?_ | refine WL.lenStr und9 rfl rfl ?_ | refine WL.fieldAddr (tyF rfl) rfl rfl ?_ | refine WL.not rfl rfl ?_ | refine WL.pick_t rfl rfl rfl ?_ | refine WL.pick_f rfl rfl rfl ?_ | refine WL.want rfl rfl ?_ | refine WL.skip rfl rfl rfl rfl ?_ | refine WL.extract rfl rfl rfl ?_ | refine WL.addI rfl rfl (by omega) rfl ?_ | refine WL.subI rfl rfl (by omega) rfl ?_ | refine WL.indexS (tyS rfl) rfl rfl (by omega) rfl ?_ | refine WL.indexA (tyR rfl) rfl rfl (by omega) rfl ?_)
    refine WL.conv' (kd' := .u16) (tyI rfl) (tyI rfl) rfl (u16w (by omega) (by omega)) rfl ?_
    refine WL.buildSlice1 make26 rfl rfl rfl ?_
    intro wb hgb hzb hrb
    refine ⟨trivial, ?_⟩
    have hob := ownsRow_up ho8 (Up.grown hgb)
    have hBb : w4.heap.size ≤ wb.heap.size := by have := hst8'.g.size; omega
    refine WL.appendL make26 rfl rfl hob hrb rfl (by simp [Value.oneCell']) (by omega) (by omega) hBb rfl ?_
    intro u' wc hoc hgc hlc' _
    refine ⟨trivial, ?_⟩
    rw [hci] at hoc
    have hoc' := own_int_snoc hoc
    have hstc := hst8'.app hgb hgc hlc'
    rw [heq] at hoc'
    clear hoc
    have U4c := hU4 hstc
    have sc := U4c.size
    have hodc := ownsRow_up hod4 U4c
    have holc := ownsRow_up hol4 U4c
    have hread : ∀ w', wc.grownBy w' dv.ownBlock → IntsV .u8 w' (.slice al ls.length cl) ls ∧ (ls ≠ [] → SeqV w' sv sq) := by
      intro w' hg
      refine ⟨IntsV_own (holc.kept hg (own_ne_own holc hodc (by decide))), fun h => ?_⟩
      obtain ⟨gs, rfl, _, hrow⟩ := hsr h
      have hrow' := (hrow.up U4c).kept hg (own_ne_row hodc (hrow.up U4c) (by decide))
      exact ⟨gs, 0, rfl, fun c hc => by rw [Nat.zero_add]; exact hrow'.cell (seqC_at sq hc)⟩
    have s2 := hu2.size
    have s3 := hu3.size
    repeat (first | refine WL.move rfl rfl ?_ | refine WL.assign rfl rfl ?_ | refine W.seq ?_ | refine W.region ?_ | refine WL.nil ?_ | refine Post.next ?_ | refine Post.tail ?_ | refine W.cond_t rfl ?_ | refine W.cond_f rfl ?_ | refine W.block ?_ | refine W.skip ?_ | refine W.exit ?_ | refine W.ret ?_ | refine Post.block_exit ?_ | refine Post.block_other rfl ?_ | refine Post.then_exit ?_ | refine Post.then_ret ?_ | refine Post.block_ret ?_ | refine Post.block_normal ?_ | refine WL.lenS (tyS rfl) rfl rfl ?_ | refine WL.lenStr und9 rfl rfl ?_ | refine WL.fieldAddr (tyF rfl) rfl rfl ?_ | refine WL.not rfl rfl ?_ | refine WL.pick_t rfl rfl rfl ?_ | refine WL.pick_f rfl rfl rfl ?_ | refine WL.want rfl rfl ?_ | refine WL.skip rfl rfl rfl rfl ?_ | refine WL.extract rfl rfl rfl ?_)
    refine WL.call _ (fnT rfl) (args4 rfl rfl rfl rfl) (zzMtf_c wc dv _ sv ds ls sq used wr.heap.size hodc (by omega) hread (by omega) hb hrk (by omega) (by omega)) (by rintro e w' ⟨_, rfl, _⟩; exact ⟨_, rfl⟩) rfl ?_
    rintro v w9 ⟨gv, hv, hog, hst9⟩
    have hv := (Ending.returned.inj hv).symm
    subst hv
    refine ⟨trivial, ?_⟩
    have U9 : Up w1 w9 := ((U3.trans hu4).trans U4c).step hst9.g (fun k hk => by have := (hod.lt k hk).1; have := hu.size; omega)
    have how : w9.ownsRow w4.heap.size 42 1 u' _ _ := hoc'.kept hst9.g (by
      cases hub : u'.ownBlock with
      | none => exact .inl rfl
      | some k =>
        right
        intro e
        have h1 := (hoc'.lt k hub).1
        have h2 := (hod4.lt k e.symm).2
        omega)
    have hEl := encG_len used (ls.map fun x => sq x.toNat) (list0 used) 0
    rw [List.length_map] at hEl
    repeat (first | refine WL.move rfl rfl ?_ | refine WL.assign rfl rfl ?_ | refine W.seq ?_ | refine W.region ?_ | refine WL.nil ?_ | refine Post.next ?_ | refine Post.tail ?_ | refine W.cond_t rfl ?_ | refine W.cond_f rfl ?_ | refine W.block ?_ | refine W.skip ?_ | refine W.exit ?_ | refine W.ret ?_ | refine Post.block_exit ?_ | refine Post.block_other rfl ?_ | refine Post.then_exit ?_ | refine Post.then_ret ?_ | refine Post.block_ret ?_ | refine Post.block_normal ?_ | refine WL.lenS (tyS rfl) rfl rfl ?_ | refine WL.lenStr und9 rfl rfl ?_ | refine WL.fieldAddr (tyF rfl) rfl rfl ?_ | refine WL.not rfl rfl ?_ | refine WL.pick_t rfl rfl rfl ?_ | refine WL.pick_f rfl rfl rfl ?_ | refine WL.want rfl rfl ?_ | refine WL.skip rfl rfl rfl rfl ?_ | refine WL.extract rfl rfl rfl ?_)
    refine WL.call _ (fnT rfl) (args2 rfl rfl) (eqU_v w9 gv u' _ (IntsV_own hog) (IntsV_own how) (by rw [List.length_append]; omega)) (by rintro e w' ⟨rfl, _⟩; exact ⟨_, rfl⟩) rfl ?_
    rintro v w10 ⟨hv, hu10⟩
    cases hv
    refine ⟨trivial, ?_⟩
    repeat (first | refine WL.move rfl rfl ?_ | refine WL.assign rfl rfl ?_ | refine W.seq ?_ | refine W.region ?_ | refine WL.nil ?_ | refine Post.next ?_ | refine Post.tail ?_ | refine W.cond_t rfl ?_ | refine W.cond_f rfl ?_ | refine W.block ?_ | refine W.skip ?_ | refine W.exit ?_ | refine W.ret ?_ | refine Post.block_exit ?_ | refine Post.block_other rfl ?_ | refine Post.then_exit ?_ | refine Post.then_ret ?_ | refine Post.block_ret ?_ | refine Post.block_normal ?_ | refine WL.lenS (tyS rfl) rfl rfl ?_ | refine WL.lenStr und9 rfl rfl ?_ | refine WL.fieldAddr (tyF rfl) rfl rfl ?_ | refine WL.not rfl rfl ?_ | refine WL.pick_t rfl rfl rfl ?_ | refine WL.pick_f rfl rfl rfl ?_ | refine WL.want rfl rfl ?_ | refine WL.skip rfl rfl rfl rfl ?_ | refine WL.extract rfl rfl rfl ?_)
    exact Post.ret1 rfl rfl ⟨rfl, U9.trans hu10⟩
end Go.Lx
