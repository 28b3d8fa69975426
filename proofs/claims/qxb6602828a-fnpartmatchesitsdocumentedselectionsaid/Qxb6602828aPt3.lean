import Derived.Test.Qxb6602828aPt2
import Derived.DeepKeys
namespace Go.Lx
open Go.Proofs Go.RowKit

theorem b1TimeL_c (w : World) (a : Option Addr) (c : Nat) (xs : List El) (hx : Els w a xs) (hl : xs.length ≤ 1048576) :
    Calls Try.prog 11 #[.slice a xs.length c] w fun e w' => ∃ a' c', e = .returned (.slice a' xs.length c') ∧ Els w' a' xs ∧ xs.length ≤ c' ∧ (a'.isNone = a.isNone) ∧ (∀ ad, a' = some ad → w.heap.size ≤ ad.block) ∧ Up w w' := by
  refine Calls.of_W (args := [.slice a xs.length c]) Try.func11 rfl rfl rfl ?_
  repeat (first | refine WL.move rfl rfl ?_ | refine WL.assign rfl rfl ?_ | refine W.seq ?_ | refine W.region ?_ | refine WL.nil ?_ | refine Post.next ?_ | refine Post.tail ?_ | refine W.cond_t rfl ?_ | refine W.cond_f rfl ?_ | refine W.block ?_ | refine W.skip ?_ | refine W.exit ?_ | refine W.ret ?_ | refine Post.block_exit ?_ | refine Post.block_other rfl ?_ | refine Post.then_exit ?_ | refine Post.then_ret ?_ | refine Post.block_ret ?_ | refine Post.block_normal ?_ | refine WL.lenS (tyS rfl) rfl rfl ?_ | refine WL.lenStr und9 rfl rfl ?_ | refine WL.fieldAddr (tyF rfl) rfl rfl ?_ | refine WL.not rfl rfl ?_ | refine WL.pick_t rfl rfl rfl ?_ | refine WL.pick_f rfl rfl rfl ?_ | refine WL.want rfl rfl ?_ | refine WL.skip rfl rfl rfl rfl ?_ | refine WL.extract rfl rfl rfl ?_)
  refine WL.eqNilS (tyS rfl) rfl rfl ?_
  cases a with
  | none =>
    have hn : xs = [] := by
      by_cases h : xs = []
      · exact h
      · obtain ⟨bk, o, e, _⟩ := hx.ad h; simp at e
    subst hn
    repeat (first | refine WL.move rfl rfl ?_ | refine WL.assign rfl rfl ?_ | refine W.seq ?_ | refine W.region ?_ | refine WL.nil ?_ | refine Post.next ?_ | refine Post.tail ?_ | refine W.cond_t rfl ?_ | refine W.cond_f rfl ?_ | refine W.block ?_ | refine W.skip ?_ | refine W.exit ?_ | refine W.ret ?_ | refine Post.block_exit ?_ | refine Post.block_other rfl ?_ | refine Post.then_exit ?_ | refine Post.then_ret ?_ | refine Post.block_ret ?_ | refine Post.block_normal ?_ | refine WL.lenS (tyS rfl) rfl rfl ?_ | refine WL.lenStr und9 rfl rfl ?_ | refine WL.fieldAddr (tyF rfl) rfl rfl ?_ | refine WL.not rfl rfl ?_ | refine WL.pick_t rfl rfl rfl ?_ | refine WL.pick_f rfl rfl rfl ?_ | refine WL.want rfl rfl ?_ | refine WL.skip rfl rfl rfl rfl ?_ | refine WL.extract rfl rfl rfl ?_)
    exact Post.ret1 rfl rfl ⟨none, 0, rfl, ⟨fun h => absurd rfl h⟩, Nat.le_refl _, rfl, (fun _ h => by cases h), Up.refl _⟩
  | some ad =>
    repeat (first | refine WL.move rfl rfl ?_ | refine WL.assign rfl rfl ?_ | refine W.seq ?_ | refine W.region ?_ | refine WL.nil ?_ | refine Post.next ?_ | refine Post.tail ?_ | refine W.cond_t rfl ?_ | refine W.cond_f rfl ?_ | refine W.block ?_ | refine W.skip ?_ | refine W.exit ?_ | refine W.ret ?_ | refine Post.block_exit ?_ | refine Post.block_other rfl ?_ | refine Post.then_exit ?_ | refine Post.then_ret ?_ | refine Post.block_ret ?_ | refine Post.block_normal ?_ | refine WL.lenS (tyS rfl) rfl rfl ?_ | refine WL.lenStr und9 rfl rfl ?_ | refine WL.fieldAddr (tyF rfl) rfl rfl ?_ | refine WL.not rfl rfl ?_ | refine WL.pick_t rfl rfl rfl ?_ | refine WL.pick_f rfl rfl rfl ?_ | refine WL.want rfl rfl ?_ | refine WL.skip rfl rfl rfl rfl ?_ | refine WL.extract rfl rfl rfl ?_)
    refine WL.make make27 rfl rfl (Nat.le_refl _) (by omega) (by omega) rfl ?_
    intro w1 cs hg hz hcl _ hrow
    refine ⟨trivial, ?_⟩
    repeat (first | refine WL.move rfl rfl ?_ | refine WL.assign rfl rfl ?_ | refine W.seq ?_ | refine W.region ?_ | refine WL.nil ?_ | refine Post.next ?_ | refine Post.tail ?_ | refine W.cond_t rfl ?_ | refine W.cond_f rfl ?_ | refine W.block ?_ | refine W.skip ?_ | refine W.exit ?_ | refine W.ret ?_ | refine Post.block_exit ?_ | refine Post.block_other rfl ?_ | refine Post.then_exit ?_ | refine Post.then_ret ?_ | refine Post.block_ret ?_ | refine Post.block_normal ?_ | refine WL.lenS (tyS rfl) rfl rfl ?_ | refine WL.lenStr und9 rfl rfl ?_ | refine WL.fieldAddr (tyF rfl) rfl rfl ?_ | refine WL.not rfl rfl ?_ | refine WL.pick_t rfl rfl rfl ?_ | refine WL.pick_f rfl rfl rfl ?_ | refine WL.want rfl rfl ?_ | refine WL.skip rfl rfl rfl rfl ?_ | refine WL.extract rfl rfl rfl ?_)
    have hu1 : Up w w1 := Up.grown hg
    refine W.loop2 (fun (k : Nat) (_ : List Value) => [(0, .slice (some ad) xs.length c), (3, .slice (some ⟨w.heap.size, 0, none⟩) xs.length xs.length), (11, .int .i64 xs.length), (12, .int .i64 k)])
      (fun k cur w' => k ≤ xs.length ∧ Row w' w.heap.size cur 32 ∧ cur.length = xs.length * 2 ∧ (∀ i x, i < k → xs[i]? = some x → cur[i * 2]? = some (.string x.1) ∧ cur[i * 2 + 1]? = some (.int .u64 x.2)) ∧ Up w w') (fun k _ => xs.length - k) 0 cs ⟨rfl, rfl, rfl, rfl, trivial⟩ ⟨by omega, hrow, hcl, by intro i x h; omega, hu1⟩ ?_
    rintro k cur w2 ⟨hk, hr2, hcl2, hc2, hu2⟩
    repeat (first | refine WL.move rfl rfl ?_ | refine WL.assign rfl rfl ?_ | refine W.seq ?_ | refine W.region ?_ | refine WL.nil ?_ | refine Post.next ?_ | refine Post.tail ?_ | refine W.cond_t rfl ?_ | refine W.cond_f rfl ?_ | refine W.block ?_ | refine W.skip ?_ | refine W.exit ?_ | refine W.ret ?_ | refine Post.block_exit ?_ | refine Post.block_other rfl ?_ | refine Post.then_exit ?_ | refine Post.then_ret ?_ | refine Post.block_ret ?_ | refine Post.block_normal ?_ | refine WL.lenS (tyS rfl) rfl rfl ?_ | refine WL.lenStr und9 rfl rfl ?_ | refine WL.fieldAddr (tyF rfl) rfl rfl ?_ | refine WL.not rfl rfl ?_ | refine WL.pick_t rfl rfl rfl ?_ | refine WL.pick_f rfl rfl rfl ?_ | refine WL.want rfl rfl ?_ | refine WL.skip rfl rfl rfl rfl ?_ | refine WL.extract rfl rfl rfl ?_)
    refine WL.lss rfl rfl rfl (fun hlt => ?_) (fun hge => ?_)
    · have hk' : k < xs.length := by omega
      obtain ⟨bk, o, e, hc⟩ := hx.get hk'
      cases e
      repeat (first | refine WL.move rfl rfl ?_ | refine WL.assign rfl rfl ?_ | refine W.seq ?_ | refine W.region ?_ | refine WL.nil ?_ | refine Post.next ?_ | refine Post.tail ?_ | refine W.cond_t rfl ?_ | refine W.cond_f rfl ?_ | refine W.block ?_ | refine W.skip ?_ | refine W.exit ?_ | refine W.ret ?_ | refine Post.block_exit ?_ | refine Post.block_other rfl ?_ | refine Post.then_exit ?_ | refine Post.then_ret ?_ | refine Post.block_ret ?_ | refine Post.block_normal ?_ | refine WL.lenS (tyS rfl) rfl rfl ?_ | refine WL.lenStr und9 rfl rfl ?_ | refine WL.fieldAddr (tyF rfl) rfl rfl ?_ | refine WL.not rfl rfl ?_ | refine WL.pick_t rfl rfl rfl ?_ | refine WL.pick_f rfl rfl rfl ?_ | refine WL.want rfl rfl ?_ | refine WL.skip rfl rfl rfl rfl ?_ | refine WL.extract rfl rfl rfl ?_)
      refine W.region_p [(0, true), (1, true), (2, true), (3, true), (4, true), (5, true), (6, true), (7, true), (8, true), (9, true), (10, true), (11, true), (12, true), (13, true), (14, false)] (Up w) mixed (by kernel_rfl) (hu2.trans (Up.drew _)) ?_
      repeat (first | refine WL.move rfl rfl ?_ | refine WL.assign rfl rfl ?_ | refine W.seq ?_ | refine W.region ?_ | refine WL.nil ?_ | refine Post.next ?_ | refine Post.tail ?_ | refine W.cond_t rfl ?_ | refine W.cond_f rfl ?_ | refine W.block ?_ | refine W.skip ?_ | refine W.exit ?_ | refine W.ret ?_ | refine Post.block_exit ?_ | refine Post.block_other rfl ?_ | refine Post.then_exit ?_ | refine Post.then_ret ?_ | refine Post.block_ret ?_ | refine Post.block_normal ?_ | refine WL.lenS (tyS rfl) rfl rfl ?_ | refine WL.lenStr und9 rfl rfl ?_ | refine WL.fieldAddr (tyF rfl) rfl rfl ?_ | refine WL.not rfl rfl ?_ | refine WL.pick_t rfl rfl rfl ?_ | refine WL.pick_f rfl rfl rfl ?_ | refine WL.want rfl rfl ?_ | refine WL.skip rfl rfl rfl rfl ?_ | refine WL.extract rfl rfl rfl ?_ | refine WL.addI rfl rfl (by omega) rfl ?_ | refine WL.subI rfl rfl (by omega) rfl ?_ | refine WL.indexS (tyS rfl) rfl rfl (by omega) rfl ?_ | refine WL.indexA (tyR rfl) rfl rfl (by omega) rfl ?_)
      refine WL.loadC (tyP rfl) rfl (fun w' hw => Up.cell hw (hc k hk').1) (by first | omega | (simp; done) | (simp; omega)) rfl ?_
      repeat (first | refine WL.move rfl rfl ?_ | refine WL.assign rfl rfl ?_ | refine W.seq ?_ | refine W.region ?_ | refine WL.nil ?_ | refine Post.next ?_ | refine Post.tail ?_ | refine W.cond_t rfl ?_ | refine W.cond_f rfl ?_ | refine W.block ?_ | refine W.skip ?_ | refine W.exit ?_ | refine W.ret ?_ | refine Post.block_exit ?_ | refine Post.block_other rfl ?_ | refine Post.then_exit ?_ | refine Post.then_ret ?_ | refine Post.block_ret ?_ | refine Post.block_normal ?_ | refine WL.lenS (tyS rfl) rfl rfl ?_ | refine WL.lenStr und9 rfl rfl ?_ | refine WL.fieldAddr (tyF rfl) rfl rfl ?_ | refine WL.not rfl rfl ?_ | refine WL.pick_t rfl rfl rfl ?_ | refine WL.pick_f rfl rfl rfl ?_ | refine WL.want rfl rfl ?_ | refine WL.skip rfl rfl rfl rfl ?_ | refine WL.extract rfl rfl rfl ?_ | refine WL.addI rfl rfl (by omega) rfl ?_ | refine WL.subI rfl rfl (by omega) rfl ?_ | refine WL.indexS (tyS rfl) rfl rfl (by omega) rfl ?_ | refine WL.indexA (tyR rfl) rfl rfl (by omega) rfl ?_)
      refine WL.loadC (tyP rfl) rfl (fun w' hw => Up.cell hw (hc k hk').2) (by first | omega | (simp; done) | (simp; omega)) rfl ?_
      refine WL.build (parts2 rfl rfl) (build32 _ _) rfl ?_
      repeat (first | refine WL.move rfl rfl ?_ | refine WL.assign rfl rfl ?_ | refine W.seq ?_ | refine W.region ?_ | refine WL.nil ?_ | refine Post.next ?_ | refine Post.tail ?_ | refine W.cond_t rfl ?_ | refine W.cond_f rfl ?_ | refine W.block ?_ | refine W.skip ?_ | refine W.exit ?_ | refine W.ret ?_ | refine Post.block_exit ?_ | refine Post.block_other rfl ?_ | refine Post.then_exit ?_ | refine Post.then_ret ?_ | refine Post.block_ret ?_ | refine Post.block_normal ?_ | refine WL.lenS (tyS rfl) rfl rfl ?_ | refine WL.lenStr und9 rfl rfl ?_ | refine WL.fieldAddr (tyF rfl) rfl rfl ?_ | refine WL.not rfl rfl ?_ | refine WL.pick_t rfl rfl rfl ?_ | refine WL.pick_f rfl rfl rfl ?_ | refine WL.want rfl rfl ?_ | refine WL.skip rfl rfl rfl rfl ?_ | refine WL.extract rfl rfl rfl ?_ | refine WL.addI rfl rfl (by omega) rfl ?_ | refine WL.subI rfl rfl (by omega) rfl ?_ | refine WL.indexS (tyS rfl) rfl rfl (by omega) rfl ?_ | refine WL.indexA (tyR rfl) rfl rfl (by omega) rfl ?_)
      refine WL.storeAgg (vs := [.string xs[k].1, .int .u64 xs[k].2]) (cs := cur) (o' := k * 2) (tyA rfl) rfl rfl rfl (by simp [Value.oneCell']) (hr2.up (Up.drew _)) (by first | omega | (simp; done) | (simp; omega)) (by simp; omega) ?_
      intro w3 hg3 hz3 hr3
      have hu3 : Up w w3 := (hu2.trans (Up.drew _)).step hg3 (by intro j hj; cases hj; omega)
      refine ⟨hu3, ?_⟩
      repeat (first | refine WL.move rfl rfl ?_ | refine WL.assign rfl rfl ?_ | refine W.seq ?_ | refine W.region ?_ | refine WL.nil ?_ | refine Post.next ?_ | refine Post.tail ?_ | refine W.cond_t rfl ?_ | refine W.cond_f rfl ?_ | refine W.block ?_ | refine W.skip ?_ | refine W.exit ?_ | refine W.ret ?_ | refine Post.block_exit ?_ | refine Post.block_other rfl ?_ | refine Post.then_exit ?_ | refine Post.then_ret ?_ | refine Post.block_ret ?_ | refine Post.block_normal ?_ | refine WL.lenS (tyS rfl) rfl rfl ?_ | refine WL.lenStr und9 rfl rfl ?_ | refine WL.fieldAddr (tyF rfl) rfl rfl ?_ | refine WL.not rfl rfl ?_ | refine WL.pick_t rfl rfl rfl ?_ | refine WL.pick_f rfl rfl rfl ?_ | refine WL.want rfl rfl ?_ | refine WL.skip rfl rfl rfl rfl ?_ | refine WL.extract rfl rfl rfl ?_ | refine WL.addI rfl rfl (by omega) rfl ?_ | refine WL.subI rfl rfl (by omega) rfl ?_ | refine WL.indexS (tyS rfl) rfl rfl (by omega) rfl ?_ | refine WL.indexA (tyR rfl) rfl rfl (by omega) rfl ?_)
      have hfit : k * 2 + [Value.string xs[k].1, Value.int .u64 xs[k].2].length ≤ cur.length := by simp; omega
      refine Post.round2 (k + 1) (spl cur (k * 2) [.string xs[k].1, .int .u64 xs[k].2]) ⟨rfl, rfl, rfl, by simp [look], trivial⟩ ⟨by omega, hr3, by rw [spl_length _ _ _ hfit]; exact hcl2, ?_, hu3⟩ (by first | omega | (simp; done) | (simp; omega))
      intro i x hi hx'
      by_cases e : i < k
      · rw [spl_lt _ _ _ hfit (by omega), spl_lt _ _ _ hfit (by omega)]
        exact hc2 i x e hx'
      · obtain rfl : i = k := by omega
        have hxe : xs[i] = x := by rw [List.getElem?_eq_getElem hk'] at hx'; simpa using hx'
        have h0 := spl_in cur (i * 2) _ hfit (i := 0) (by simp)
        have h1 := spl_in cur (i * 2) _ hfit (i := 1) (by simp)
        rw [← hxe]
        exact ⟨by simpa using h0, by simpa using h1⟩
    · repeat (first | refine WL.move rfl rfl ?_ | refine WL.assign rfl rfl ?_ | refine W.seq ?_ | refine W.region ?_ | refine WL.nil ?_ | refine Post.next ?_ | refine Post.tail ?_ | refine W.cond_t rfl ?_ | refine W.cond_f rfl ?_ | refine W.block ?_ | refine W.skip ?_ | refine W.exit ?_ | refine W.ret ?_ | refine Post.block_exit ?_ | refine Post.block_other rfl ?_ | refine Post.then_exit ?_ | refine Post.then_ret ?_ | refine Post.block_ret ?_ | refine Post.block_normal ?_ | refine WL.lenS (tyS rfl) rfl rfl ?_ | refine WL.lenStr und9 rfl rfl ?_ | refine WL.fieldAddr (tyF rfl) rfl rfl ?_ | refine WL.not rfl rfl ?_ | refine WL.pick_t rfl rfl rfl ?_ | refine WL.pick_f rfl rfl rfl ?_ | refine WL.want rfl rfl ?_ | refine WL.skip rfl rfl rfl rfl ?_ | refine WL.extract rfl rfl rfl ?_)
      refine Post.ret1 rfl rfl ⟨_, _, rfl, ⟨fun h => ⟨w.heap.size, 0, rfl, fun i x hi => ?_⟩⟩, Nat.le_refl _, rfl, (fun _ h => by cases h; exact Nat.le_refl _), hu2⟩
      have hil : i < xs.length := (List.getElem?_eq_some_iff.1 hi).1
      obtain ⟨h1, h2⟩ := hc2 i x (by omega) hi
      exact ⟨hr2.cell (by simpa using h1), hr2.cell (by simpa using h2)⟩

theorem b1TimeL_v (w : World) (v : Value) (xs : List El) (hx : ElsV w v xs) (hl : xs.length ≤ 1048576) :
    Calls Try.prog 11 #[v] w fun e w' => ∃ a' c', e = .returned (.slice a' xs.length c') ∧ ElsV w' (.slice a' xs.length c') xs ∧ isNilV (.slice a' xs.length c') = isNilV v ∧ (∀ ad, a' = some ad → w.heap.size ≤ ad.block) ∧ Up w w' := by
  obtain ⟨a, c, rfl, he, hc⟩ := hx
  refine (b1TimeL_c w a c xs he hl).mono ?_
  rintro e w' ⟨a', c', rfl, h1, h2, h3, h4, h5⟩
  refine ⟨a', c', rfl, ⟨a', c', rfl, h1, h2⟩, ?_, h4, h5⟩
  cases a <;> cases a' <;> simp [isNilV] at h3 ⊢
theorem ElsV.kept {w w' : World} {v : Value} {xs : List El} {g : Nat} (h : ElsV w v xs) (hg : w.grownBy w' (some g)) (hne : ∀ ad l c, v = .slice (some ad) l c → ad.block ≠ g) : ElsV w' v xs := by
  obtain ⟨a, c, rfl, he, hc⟩ := h
  refine ⟨a, c, rfl, ⟨fun hx => ?_⟩, hc⟩
  obtain ⟨bk, o, rfl, hcell⟩ := he.ad hx
  have hb : bk ≠ g := hne _ _ _ rfl
  have key : ∀ {p : Addr} {u : Value}, p.block = bk → w.cell? p = some u → w'.cell? p = some u := fun {p u} hp hc => by
    rw [World.cell?_of_block (w := w) (hg.block p.block (World.block_lt_of_cell? w p hc) (by rw [hp]; intro e; exact hb (Option.some.inj e)))]; exact hc
  exact ⟨bk, o, rfl, fun i x hx => ⟨key rfl (hcell i x hx).1, key rfl (hcell i x hx).2⟩⟩
theorem stm_at_sa (e : E1) (j : Nat) (v : Value) (h : e.sa.cells[j]? = some v) : e.cells[7 + j]? = some v := by
  match j, h with
  | 0, h => exact h
  | 1, h => exact h
  | 2, h => exact h
  | 3, h => exact h
  | j + 4, h => simp [Stm.cells] at h
theorem stm_at_sb (e : E1) (j : Nat) (v : Value) (h : e.sb.cells[j]? = some v) : e.cells[11 + j]? = some v := by
  match j, h with
  | 0, h => exact h
  | 1, h => exact h
  | 2, h => exact h
  | 3, h => exact h
  | j + 4, h => simp [Stm.cells] at h
theorem stm_at_sc (e : E1) (j : Nat) (v : Value) (h : e.sc.cells[j]? = some v) : e.cells[16 + j]? = some v := by
  match j, h with
  | 0, h => exact h
  | 1, h => exact h
  | 2, h => exact h
  | 3, h => exact h
  | j + 4, h => simp [Stm.cells] at h
structure FreshT (B : Nat) (t : TE) : Prop where
  C : ∀ ad l c, t.C = .slice (some ad) l c → B ≤ ad.block
  M : ∀ ad l c, t.M = .slice (some ad) l c → B ≤ ad.block
  S : ∀ ad l c, t.S = .slice (some ad) l c → B ≤ ad.block
  D : ∀ ad l c, t.D = .slice (some ad) l c → B ≤ ad.block
  DS : ∀ ad l c, t.DS = .slice (some ad) l c → B ≤ ad.block
  Ab : ∀ ad l c, t.Ab = .slice (some ad) l c → B ≤ ad.block
  R : ∀ ad l c, t.R = .slice (some ad) l c → B ≤ ad.block
  KA : ∀ ad l c, t.KA = .slice (some ad) l c → B ≤ ad.block
theorem TVs.kept {w w' : World} {t : TE} {e : E1} {B g : Nat} (h : TVs w t e) (hf : FreshT B t) (hg : w.grownBy w' (some g)) (hlt : g < B) : TVs w' t e :=
  ⟨⟨h.C.1.kept hg (fun ad l c e => by have := hf.C ad l c e; omega), h.C.2⟩, ⟨h.M.1.kept hg (fun ad l c e => by have := hf.M ad l c e; omega), h.M.2⟩, ⟨h.S.1.kept hg (fun ad l c e => by have := hf.S ad l c e; omega), h.S.2⟩, ⟨h.D.1.kept hg (fun ad l c e => by have := hf.D ad l c e; omega), h.D.2⟩, ⟨h.DS.1.kept hg (fun ad l c e => by have := hf.DS ad l c e; omega), h.DS.2⟩, ⟨h.Ab.1.kept hg (fun ad l c e => by have := hf.Ab ad l c e; omega), h.Ab.2⟩, ⟨h.R.1.kept hg (fun ad l c e => by have := hf.R ad l c e; omega), h.R.2⟩, ⟨h.KA.1.kept hg (fun ad l c e => by have := hf.KA ad l c e; omega), h.KA.2⟩⟩
set_option maxHeartbeats 1000000 in
theorem entry_c (w : World) (e : E1) (hok : e.ok w) (hb : e.bnd 1048576) :
    Calls Try.prog 32 #[.agg e.cells.toArray] w fun r w' => ∃ t : TE, r = .returned (.agg (t.cells e).toArray) ∧ TVs w' t e ∧ FreshT w.heap.size t ∧ Up w w' := by
  refine Calls.of_W (args := [.agg e.cells.toArray]) Try.func32 rfl rfl rfl ?_
  repeat (first | refine WL.move rfl rfl ?_ | refine WL.assign rfl rfl ?_ | refine W.seq ?_ | refine W.region ?_ | refine WL.nil ?_ | refine Post.next ?_ | refine Post.tail ?_ | refine W.cond_t rfl ?_ | refine W.cond_f rfl ?_ | refine W.block ?_ | refine W.skip ?_ | refine W.exit ?_ | refine W.ret ?_ | refine Post.block_exit ?_ | refine Post.block_other rfl ?_ | refine Post.then_exit ?_ | refine Post.then_ret ?_ | refine Post.block_ret ?_ | refine Post.block_normal ?_ | refine WL.lenS (tyS rfl) rfl rfl ?_ | refine WL.lenStr und9 rfl rfl ?_ | refine WL.fieldAddr (tyF rfl) rfl rfl ?_ | refine WL.not rfl rfl ?_ | refine WL.pick_t rfl rfl rfl ?_ | refine WL.pick_f rfl rfl rfl ?_ | refine WL.want rfl rfl ?_ | refine WL.skip rfl rfl rfl rfl ?_ | refine WL.extract rfl rfl rfl ?_)
  refine WL.box (cs := e.cells) rfl rfl rfl ?_
  intro w1 hg1 hz1 hr1
  refine ⟨trivial, ?_⟩
  refine WL.alloc zero68 rfl ?_
  intro w2 hg2 hz2 hr2
  refine ⟨trivial, ?_⟩
  repeat (first | refine WL.move rfl rfl ?_ | refine WL.assign rfl rfl ?_ | refine W.seq ?_ | refine W.region ?_ | refine WL.nil ?_ | refine Post.next ?_ | refine Post.tail ?_ | refine W.cond_t rfl ?_ | refine W.cond_f rfl ?_ | refine W.block ?_ | refine W.skip ?_ | refine W.exit ?_ | refine W.ret ?_ | refine Post.block_exit ?_ | refine Post.block_other rfl ?_ | refine Post.then_exit ?_ | refine Post.then_ret ?_ | refine Post.block_ret ?_ | refine Post.block_normal ?_ | refine WL.lenS (tyS rfl) rfl rfl ?_ | refine WL.lenStr und9 rfl rfl ?_ | refine WL.fieldAddr (tyF rfl) rfl rfl ?_ | refine WL.not rfl rfl ?_ | refine WL.pick_t rfl rfl rfl ?_ | refine WL.pick_f rfl rfl rfl ?_ | refine WL.want rfl rfl ?_ | refine WL.skip rfl rfl rfl rfl ?_ | refine WL.extract rfl rfl rfl ?_)
  have hR1 : Row w2.drew w.heap.size e.cells 64 := hr1.up ((Up.grown hg2).trans (Up.drew w2))
  have hR2 : Row w2.drew w1.heap.size zE 68 := hr2.up (Up.drew w2)
  have U0 : Up w w2.drew := ((Up.grown hg1).trans (Up.grown hg2)).trans (Up.drew w2)
  have UU : Up w2.drew w2.drew := Up.refl _
  have hsz : w1.heap.size = w.heap.size + 1 := hz1
  generalize hw1 : w1.heap.size = g2 at *
  refine W.region_f [(0, true), (1, true), (2, true), (3, true), (5, true), (6, true), (8, true), (9, true), (11, true), (12, true), (14, true), (15, true), (17, true), (18, true), (20, true), (21, true), (23, true), (24, true), (26, true), (27, true), (29, true), (30, true), (32, true), (33, true), (4, false), (7, false), (10, false), (13, false), (16, false), (19, false), (22, false), (25, false), (28, false), (31, false), (34, false), (35, true)] [36] (fun w' => Row w' w.heap.size e.cells 64 ∧ Row w' g2 zE 68) mixed (by kernel_rfl) ⟨hR1, hR2⟩ ?_
  repeat (first | refine WL.move rfl rfl ?_ | refine WL.assign rfl rfl ?_ | refine W.seq ?_ | refine W.region ?_ | refine WL.nil ?_ | refine Post.next ?_ | refine Post.tail ?_ | refine W.cond_t rfl ?_ | refine W.cond_f rfl ?_ | refine W.block ?_ | refine W.skip ?_ | refine W.exit ?_ | refine W.ret ?_ | refine Post.block_exit ?_ | refine Post.block_other rfl ?_ | refine Post.then_exit ?_ | refine Post.then_ret ?_ | refine Post.block_ret ?_ | refine Post.block_normal ?_ | refine WL.lenS (tyS rfl) rfl rfl ?_ | refine WL.lenStr und9 rfl rfl ?_ | refine WL.fieldAddr (tyF rfl) rfl rfl ?_ | refine WL.not rfl rfl ?_ | refine WL.pick_t rfl rfl rfl ?_ | refine WL.pick_f rfl rfl rfl ?_ | refine WL.want rfl rfl ?_ | refine WL.skip rfl rfl rfl rfl ?_ | refine WL.extract rfl rfl rfl ?_)
  refine WL.loadC (o' := 1) (tyP rfl) rfl (fun w' hw => hw.1.cell rfl) (by first | omega | (simp; done) | (simp; omega)) rfl ?_
  repeat (first | refine WL.move rfl rfl ?_ | refine WL.assign rfl rfl ?_ | refine W.seq ?_ | refine W.region ?_ | refine WL.nil ?_ | refine Post.next ?_ | refine Post.tail ?_ | refine W.cond_t rfl ?_ | refine W.cond_f rfl ?_ | refine W.block ?_ | refine W.skip ?_ | refine W.exit ?_ | refine W.ret ?_ | refine Post.block_exit ?_ | refine Post.block_other rfl ?_ | refine Post.then_exit ?_ | refine Post.then_ret ?_ | refine Post.block_ret ?_ | refine Post.block_normal ?_ | refine WL.lenS (tyS rfl) rfl rfl ?_ | refine WL.lenStr und9 rfl rfl ?_ | refine WL.fieldAddr (tyF rfl) rfl rfl ?_ | refine WL.not rfl rfl ?_ | refine WL.pick_t rfl rfl rfl ?_ | refine WL.pick_f rfl rfl rfl ?_ | refine WL.want rfl rfl ?_ | refine WL.skip rfl rfl rfl rfl ?_ | refine WL.extract rfl rfl rfl ?_)
  refine WL.loadC (o' := 2) (tyP rfl) rfl (fun w' hw => hw.1.cell rfl) (by first | omega | (simp; done) | (simp; omega)) rfl ?_
  repeat (first | refine WL.move rfl rfl ?_ | refine WL.assign rfl rfl ?_ | refine W.seq ?_ | refine W.region ?_ | refine WL.nil ?_ | refine Post.next ?_ | refine Post.tail ?_ | refine W.cond_t rfl ?_ | refine W.cond_f rfl ?_ | refine W.block ?_ | refine W.skip ?_ | refine W.exit ?_ | refine W.ret ?_ | refine Post.block_exit ?_ | refine Post.block_other rfl ?_ | refine Post.then_exit ?_ | refine Post.then_ret ?_ | refine Post.block_ret ?_ | refine Post.block_normal ?_ | refine WL.lenS (tyS rfl) rfl rfl ?_ | refine WL.lenStr und9 rfl rfl ?_ | refine WL.fieldAddr (tyF rfl) rfl rfl ?_ | refine WL.not rfl rfl ?_ | refine WL.pick_t rfl rfl rfl ?_ | refine WL.pick_f rfl rfl rfl ?_ | refine WL.want rfl rfl ?_ | refine WL.skip rfl rfl rfl rfl ?_ | refine WL.extract rfl rfl rfl ?_)
  refine WL.loadC (o' := 3) (tyP rfl) rfl (fun w' hw => hw.1.cell rfl) (by first | omega | (simp; done) | (simp; omega)) rfl ?_
  repeat (first | refine WL.move rfl rfl ?_ | refine WL.assign rfl rfl ?_ | refine W.seq ?_ | refine W.region ?_ | refine WL.nil ?_ | refine Post.next ?_ | refine Post.tail ?_ | refine W.cond_t rfl ?_ | refine W.cond_f rfl ?_ | refine W.block ?_ | refine W.skip ?_ | refine W.exit ?_ | refine W.ret ?_ | refine Post.block_exit ?_ | refine Post.block_other rfl ?_ | refine Post.then_exit ?_ | refine Post.then_ret ?_ | refine Post.block_ret ?_ | refine Post.block_normal ?_ | refine WL.lenS (tyS rfl) rfl rfl ?_ | refine WL.lenStr und9 rfl rfl ?_ | refine WL.fieldAddr (tyF rfl) rfl rfl ?_ | refine WL.not rfl rfl ?_ | refine WL.pick_t rfl rfl rfl ?_ | refine WL.pick_f rfl rfl rfl ?_ | refine WL.want rfl rfl ?_ | refine WL.skip rfl rfl rfl rfl ?_ | refine WL.extract rfl rfl rfl ?_)
  refine WL.loadC (o' := 4) (tyP rfl) rfl (fun w' hw => hw.1.cell rfl) (by first | omega | (simp; done) | (simp; omega)) rfl ?_
  repeat (first | refine WL.move rfl rfl ?_ | refine WL.assign rfl rfl ?_ | refine W.seq ?_ | refine W.region ?_ | refine WL.nil ?_ | refine Post.next ?_ | refine Post.tail ?_ | refine W.cond_t rfl ?_ | refine W.cond_f rfl ?_ | refine W.block ?_ | refine W.skip ?_ | refine W.exit ?_ | refine W.ret ?_ | refine Post.block_exit ?_ | refine Post.block_other rfl ?_ | refine Post.then_exit ?_ | refine Post.then_ret ?_ | refine Post.block_ret ?_ | refine Post.block_normal ?_ | refine WL.lenS (tyS rfl) rfl rfl ?_ | refine WL.lenStr und9 rfl rfl ?_ | refine WL.fieldAddr (tyF rfl) rfl rfl ?_ | refine WL.not rfl rfl ?_ | refine WL.pick_t rfl rfl rfl ?_ | refine WL.pick_f rfl rfl rfl ?_ | refine WL.want rfl rfl ?_ | refine WL.skip rfl rfl rfl rfl ?_ | refine WL.extract rfl rfl rfl ?_)
  refine WL.loadC (o' := 5) (tyP rfl) rfl (fun w' hw => hw.1.cell rfl) (by first | omega | (simp; done) | (simp; omega)) rfl ?_
  repeat (first | refine WL.move rfl rfl ?_ | refine WL.assign rfl rfl ?_ | refine W.seq ?_ | refine W.region ?_ | refine WL.nil ?_ | refine Post.next ?_ | refine Post.tail ?_ | refine W.cond_t rfl ?_ | refine W.cond_f rfl ?_ | refine W.block ?_ | refine W.skip ?_ | refine W.exit ?_ | refine W.ret ?_ | refine Post.block_exit ?_ | refine Post.block_other rfl ?_ | refine Post.then_exit ?_ | refine Post.then_ret ?_ | refine Post.block_ret ?_ | refine Post.block_normal ?_ | refine WL.lenS (tyS rfl) rfl rfl ?_ | refine WL.lenStr und9 rfl rfl ?_ | refine WL.fieldAddr (tyF rfl) rfl rfl ?_ | refine WL.not rfl rfl ?_ | refine WL.pick_t rfl rfl rfl ?_ | refine WL.pick_f rfl rfl rfl ?_ | refine WL.want rfl rfl ?_ | refine WL.skip rfl rfl rfl rfl ?_ | refine WL.extract rfl rfl rfl ?_)
  refine WL.loadC (o' := 6) (tyP rfl) rfl (fun w' hw => hw.1.cell rfl) (by first | omega | (simp; done) | (simp; omega)) rfl ?_
  repeat (first | refine WL.move rfl rfl ?_ | refine WL.assign rfl rfl ?_ | refine W.seq ?_ | refine W.region ?_ | refine WL.nil ?_ | refine Post.next ?_ | refine Post.tail ?_ | refine W.cond_t rfl ?_ | refine W.cond_f rfl ?_ | refine W.block ?_ | refine W.skip ?_ | refine W.exit ?_ | refine W.ret ?_ | refine Post.block_exit ?_ | refine Post.block_other rfl ?_ | refine Post.then_exit ?_ | refine Post.then_ret ?_ | refine Post.block_ret ?_ | refine Post.block_normal ?_ | refine WL.lenS (tyS rfl) rfl rfl ?_ | refine WL.lenStr und9 rfl rfl ?_ | refine WL.fieldAddr (tyF rfl) rfl rfl ?_ | refine WL.not rfl rfl ?_ | refine WL.pick_t rfl rfl rfl ?_ | refine WL.pick_f rfl rfl rfl ?_ | refine WL.want rfl rfl ?_ | refine WL.skip rfl rfl rfl rfl ?_ | refine WL.extract rfl rfl rfl ?_)
  refine WL.loadAggC (cs := e.sa.cells) (o' := 7) (tyA rfl) rfl rfl (fun w' hw j v hj => hw.1.cell (stm_at_sa e j v hj)) (by first | omega | (simp; done) | (simp; omega)) rfl ?_
  repeat (first | refine WL.move rfl rfl ?_ | refine WL.assign rfl rfl ?_ | refine W.seq ?_ | refine W.region ?_ | refine WL.nil ?_ | refine Post.next ?_ | refine Post.tail ?_ | refine W.cond_t rfl ?_ | refine W.cond_f rfl ?_ | refine W.block ?_ | refine W.skip ?_ | refine W.exit ?_ | refine W.ret ?_ | refine Post.block_exit ?_ | refine Post.block_other rfl ?_ | refine Post.then_exit ?_ | refine Post.then_ret ?_ | refine Post.block_ret ?_ | refine Post.block_normal ?_ | refine WL.lenS (tyS rfl) rfl rfl ?_ | refine WL.lenStr und9 rfl rfl ?_ | refine WL.fieldAddr (tyF rfl) rfl rfl ?_ | refine WL.not rfl rfl ?_ | refine WL.pick_t rfl rfl rfl ?_ | refine WL.pick_f rfl rfl rfl ?_ | refine WL.want rfl rfl ?_ | refine WL.skip rfl rfl rfl rfl ?_ | refine WL.extract rfl rfl rfl ?_)
  refine WL.loadAggC (cs := e.sb.cells) (o' := 11) (tyA rfl) rfl rfl (fun w' hw j v hj => hw.1.cell (stm_at_sb e j v hj)) (by first | omega | (simp; done) | (simp; omega)) rfl ?_
  repeat (first | refine WL.move rfl rfl ?_ | refine WL.assign rfl rfl ?_ | refine W.seq ?_ | refine W.region ?_ | refine WL.nil ?_ | refine Post.next ?_ | refine Post.tail ?_ | refine W.cond_t rfl ?_ | refine W.cond_f rfl ?_ | refine W.block ?_ | refine W.skip ?_ | refine W.exit ?_ | refine W.ret ?_ | refine Post.block_exit ?_ | refine Post.block_other rfl ?_ | refine Post.then_exit ?_ | refine Post.then_ret ?_ | refine Post.block_ret ?_ | refine Post.block_normal ?_ | refine WL.lenS (tyS rfl) rfl rfl ?_ | refine WL.lenStr und9 rfl rfl ?_ | refine WL.fieldAddr (tyF rfl) rfl rfl ?_ | refine WL.not rfl rfl ?_ | refine WL.pick_t rfl rfl rfl ?_ | refine WL.pick_f rfl rfl rfl ?_ | refine WL.want rfl rfl ?_ | refine WL.skip rfl rfl rfl rfl ?_ | refine WL.extract rfl rfl rfl ?_)
  refine WL.loadC (o' := 15) (tyP rfl) rfl (fun w' hw => hw.1.cell rfl) (by first | omega | (simp; done) | (simp; omega)) rfl ?_
  repeat (first | refine WL.move rfl rfl ?_ | refine WL.assign rfl rfl ?_ | refine W.seq ?_ | refine W.region ?_ | refine WL.nil ?_ | refine Post.next ?_ | refine Post.tail ?_ | refine W.cond_t rfl ?_ | refine W.cond_f rfl ?_ | refine W.block ?_ | refine W.skip ?_ | refine W.exit ?_ | refine W.ret ?_ | refine Post.block_exit ?_ | refine Post.block_other rfl ?_ | refine Post.then_exit ?_ | refine Post.then_ret ?_ | refine Post.block_ret ?_ | refine Post.block_normal ?_ | refine WL.lenS (tyS rfl) rfl rfl ?_ | refine WL.lenStr und9 rfl rfl ?_ | refine WL.fieldAddr (tyF rfl) rfl rfl ?_ | refine WL.not rfl rfl ?_ | refine WL.pick_t rfl rfl rfl ?_ | refine WL.pick_f rfl rfl rfl ?_ | refine WL.want rfl rfl ?_ | refine WL.skip rfl rfl rfl rfl ?_ | refine WL.extract rfl rfl rfl ?_)
  refine WL.loadAggC (cs := e.sc.cells) (o' := 16) (tyA rfl) rfl rfl (fun w' hw j v hj => hw.1.cell (stm_at_sc e j v hj)) (by first | omega | (simp; done) | (simp; omega)) rfl ?_
  repeat (first | refine WL.move rfl rfl ?_ | refine WL.assign rfl rfl ?_ | refine W.seq ?_ | refine W.region ?_ | refine WL.nil ?_ | refine Post.next ?_ | refine Post.tail ?_ | refine W.cond_t rfl ?_ | refine W.cond_f rfl ?_ | refine W.block ?_ | refine W.skip ?_ | refine W.exit ?_ | refine W.ret ?_ | refine Post.block_exit ?_ | refine Post.block_other rfl ?_ | refine Post.then_exit ?_ | refine Post.then_ret ?_ | refine Post.block_ret ?_ | refine Post.block_normal ?_ | refine WL.lenS (tyS rfl) rfl rfl ?_ | refine WL.lenStr und9 rfl rfl ?_ | refine WL.fieldAddr (tyF rfl) rfl rfl ?_ | refine WL.not rfl rfl ?_ | refine WL.pick_t rfl rfl rfl ?_ | refine WL.pick_f rfl rfl rfl ?_ | refine WL.want rfl rfl ?_ | refine WL.skip rfl rfl rfl rfl ?_ | refine WL.extract rfl rfl rfl ?_)
  refine WL.loadC (o' := 20) (tyP rfl) rfl (fun w' hw => hw.1.cell rfl) (by first | omega | (simp; done) | (simp; omega)) rfl ?_
  repeat (first | refine WL.move rfl rfl ?_ | refine WL.assign rfl rfl ?_ | refine W.seq ?_ | refine W.region ?_ | refine WL.nil ?_ | refine Post.next ?_ | refine Post.tail ?_ | refine W.cond_t rfl ?_ | refine W.cond_f rfl ?_ | refine W.block ?_ | refine W.skip ?_ | refine W.exit ?_ | refine W.ret ?_ | refine Post.block_exit ?_ | refine Post.block_other rfl ?_ | refine Post.then_exit ?_ | refine Post.then_ret ?_ | refine Post.block_ret ?_ | refine Post.block_normal ?_ | refine WL.lenS (tyS rfl) rfl rfl ?_ | refine WL.lenStr und9 rfl rfl ?_ | refine WL.fieldAddr (tyF rfl) rfl rfl ?_ | refine WL.not rfl rfl ?_ | refine WL.pick_t rfl rfl rfl ?_ | refine WL.pick_f rfl rfl rfl ?_ | refine WL.want rfl rfl ?_ | refine WL.skip rfl rfl rfl rfl ?_ | refine WL.extract rfl rfl rfl ?_)
  refine WL.loadC (o' := 21) (tyP rfl) rfl (fun w' hw => hw.1.cell rfl) (by first | omega | (simp; done) | (simp; omega)) rfl ?_
  repeat (first | refine WL.move rfl rfl ?_ | refine WL.assign rfl rfl ?_ | refine W.seq ?_ | refine W.region ?_ | refine WL.nil ?_ | refine Post.next ?_ | refine Post.tail ?_ | refine W.cond_t rfl ?_ | refine W.cond_f rfl ?_ | refine W.block ?_ | refine W.skip ?_ | refine W.exit ?_ | refine W.ret ?_ | refine Post.block_exit ?_ | refine Post.block_other rfl ?_ | refine Post.then_exit ?_ | refine Post.then_ret ?_ | refine Post.block_ret ?_ | refine Post.block_normal ?_ | refine WL.lenS (tyS rfl) rfl rfl ?_ | refine WL.lenStr und9 rfl rfl ?_ | refine WL.fieldAddr (tyF rfl) rfl rfl ?_ | refine WL.not rfl rfl ?_ | refine WL.pick_t rfl rfl rfl ?_ | refine WL.pick_f rfl rfl rfl ?_ | refine WL.want rfl rfl ?_ | refine WL.skip rfl rfl rfl rfl ?_ | refine WL.extract rfl rfl rfl ?_)
  refine WL.call _ (fnT rfl) (args1 rfl) (b1TimeL_v _ _ e.xC (hok.up (U0)).C hb.C) (by rintro e w' ⟨_, _, rfl, _⟩; exact ⟨_, rfl⟩) rfl ?_
  rintro v W1 ⟨aC, cC, hv, hEC, hnC, hLC, hu1⟩
  cases hv
  have U1 : Up w W1 := U0.trans hu1
  refine ⟨⟨hR1.up (UU.trans hu1), hR2.up (UU.trans hu1)⟩, ?_⟩
  replace UU := UU.trans hu1
  repeat (first | refine WL.move rfl rfl ?_ | refine WL.assign rfl rfl ?_ | refine W.seq ?_ | refine W.region ?_ | refine WL.nil ?_ | refine Post.next ?_ | refine Post.tail ?_ | refine W.cond_t rfl ?_ | refine W.cond_f rfl ?_ | refine W.block ?_ | refine W.skip ?_ | refine W.exit ?_ | refine W.ret ?_ | refine Post.block_exit ?_ | refine Post.block_other rfl ?_ | refine Post.then_exit ?_ | refine Post.then_ret ?_ | refine Post.block_ret ?_ | refine Post.block_normal ?_ | refine WL.lenS (tyS rfl) rfl rfl ?_ | refine WL.lenStr und9 rfl rfl ?_ | refine WL.fieldAddr (tyF rfl) rfl rfl ?_ | refine WL.not rfl rfl ?_ | refine WL.pick_t rfl rfl rfl ?_ | refine WL.pick_f rfl rfl rfl ?_ | refine WL.want rfl rfl ?_ | refine WL.skip rfl rfl rfl rfl ?_ | refine WL.extract rfl rfl rfl ?_)
  refine WL.call _ (fnT rfl) (args1 rfl) (b1TimeL_v _ _ e.xM (hok.up (U1)).M hb.M) (by rintro e w' ⟨_, _, rfl, _⟩; exact ⟨_, rfl⟩) rfl ?_
  rintro v W2 ⟨aM, cM, hv, hEM, hnM, hLM, hu2⟩
  cases hv
  have U2 : Up w W2 := U1.trans hu2
  refine ⟨⟨hR1.up (UU.trans hu2), hR2.up (UU.trans hu2)⟩, ?_⟩
  replace UU := UU.trans hu2
  repeat (first | refine WL.move rfl rfl ?_ | refine WL.assign rfl rfl ?_ | refine W.seq ?_ | refine W.region ?_ | refine WL.nil ?_ | refine Post.next ?_ | refine Post.tail ?_ | refine W.cond_t rfl ?_ | refine W.cond_f rfl ?_ | refine W.block ?_ | refine W.skip ?_ | refine W.exit ?_ | refine W.ret ?_ | refine Post.block_exit ?_ | refine Post.block_other rfl ?_ | refine Post.then_exit ?_ | refine Post.then_ret ?_ | refine Post.block_ret ?_ | refine Post.block_normal ?_ | refine WL.lenS (tyS rfl) rfl rfl ?_ | refine WL.lenStr und9 rfl rfl ?_ | refine WL.fieldAddr (tyF rfl) rfl rfl ?_ | refine WL.not rfl rfl ?_ | refine WL.pick_t rfl rfl rfl ?_ | refine WL.pick_f rfl rfl rfl ?_ | refine WL.want rfl rfl ?_ | refine WL.skip rfl rfl rfl rfl ?_ | refine WL.extract rfl rfl rfl ?_)
  refine WL.call _ (fnT rfl) (args1 rfl) (b1TimeL_v _ _ e.xS (hok.up (U2)).S hb.S) (by rintro e w' ⟨_, _, rfl, _⟩; exact ⟨_, rfl⟩) rfl ?_
  rintro v W3 ⟨aS, cS, hv, hES, hnS, hLS, hu3⟩
  cases hv
  have U3 : Up w W3 := U2.trans hu3
  refine ⟨⟨hR1.up (UU.trans hu3), hR2.up (UU.trans hu3)⟩, ?_⟩
  replace UU := UU.trans hu3
  repeat (first | refine WL.move rfl rfl ?_ | refine WL.assign rfl rfl ?_ | refine W.seq ?_ | refine W.region ?_ | refine WL.nil ?_ | refine Post.next ?_ | refine Post.tail ?_ | refine W.cond_t rfl ?_ | refine W.cond_f rfl ?_ | refine W.block ?_ | refine W.skip ?_ | refine W.exit ?_ | refine W.ret ?_ | refine Post.block_exit ?_ | refine Post.block_other rfl ?_ | refine Post.then_exit ?_ | refine Post.then_ret ?_ | refine Post.block_ret ?_ | refine Post.block_normal ?_ | refine WL.lenS (tyS rfl) rfl rfl ?_ | refine WL.lenStr und9 rfl rfl ?_ | refine WL.fieldAddr (tyF rfl) rfl rfl ?_ | refine WL.not rfl rfl ?_ | refine WL.pick_t rfl rfl rfl ?_ | refine WL.pick_f rfl rfl rfl ?_ | refine WL.want rfl rfl ?_ | refine WL.skip rfl rfl rfl rfl ?_ | refine WL.extract rfl rfl rfl ?_)
  refine WL.call _ (fnT rfl) (args1 rfl) (b1TimeL_v _ _ e.xD (hok.up (U3)).D hb.D) (by rintro e w' ⟨_, _, rfl, _⟩; exact ⟨_, rfl⟩) rfl ?_
  rintro v W4 ⟨aD, cD, hv, hED, hnD, hLD, hu4⟩
  cases hv
  have U4 : Up w W4 := U3.trans hu4
  refine ⟨⟨hR1.up (UU.trans hu4), hR2.up (UU.trans hu4)⟩, ?_⟩
  replace UU := UU.trans hu4
  repeat (first | refine WL.move rfl rfl ?_ | refine WL.assign rfl rfl ?_ | refine W.seq ?_ | refine W.region ?_ | refine WL.nil ?_ | refine Post.next ?_ | refine Post.tail ?_ | refine W.cond_t rfl ?_ | refine W.cond_f rfl ?_ | refine W.block ?_ | refine W.skip ?_ | refine W.exit ?_ | refine W.ret ?_ | refine Post.block_exit ?_ | refine Post.block_other rfl ?_ | refine Post.then_exit ?_ | refine Post.then_ret ?_ | refine Post.block_ret ?_ | refine Post.block_normal ?_ | refine WL.lenS (tyS rfl) rfl rfl ?_ | refine WL.lenStr und9 rfl rfl ?_ | refine WL.fieldAddr (tyF rfl) rfl rfl ?_ | refine WL.not rfl rfl ?_ | refine WL.pick_t rfl rfl rfl ?_ | refine WL.pick_f rfl rfl rfl ?_ | refine WL.want rfl rfl ?_ | refine WL.skip rfl rfl rfl rfl ?_ | refine WL.extract rfl rfl rfl ?_)
  refine WL.call _ (fnT rfl) (args1 rfl) (b1TimeL_v _ _ e.xDS (hok.up (U4)).DS hb.DS) (by rintro e w' ⟨_, _, rfl, _⟩; exact ⟨_, rfl⟩) rfl ?_
  rintro v W5 ⟨aDS, cDS, hv, hEDS, hnDS, hLDS, hu5⟩
  cases hv
  have U5 : Up w W5 := U4.trans hu5
  refine ⟨⟨hR1.up (UU.trans hu5), hR2.up (UU.trans hu5)⟩, ?_⟩
  replace UU := UU.trans hu5
  repeat (first | refine WL.move rfl rfl ?_ | refine WL.assign rfl rfl ?_ | refine W.seq ?_ | refine W.region ?_ | refine WL.nil ?_ | refine Post.next ?_ | refine Post.tail ?_ | refine W.cond_t rfl ?_ | refine W.cond_f rfl ?_ | refine W.block ?_ | refine W.skip ?_ | refine W.exit ?_ | refine W.ret ?_ | refine Post.block_exit ?_ | refine Post.block_other rfl ?_ | refine Post.then_exit ?_ | refine Post.then_ret ?_ | refine Post.block_ret ?_ | refine Post.block_normal ?_ | refine WL.lenS (tyS rfl) rfl rfl ?_ | refine WL.lenStr und9 rfl rfl ?_ | refine WL.fieldAddr (tyF rfl) rfl rfl ?_ | refine WL.not rfl rfl ?_ | refine WL.pick_t rfl rfl rfl ?_ | refine WL.pick_f rfl rfl rfl ?_ | refine WL.want rfl rfl ?_ | refine WL.skip rfl rfl rfl rfl ?_ | refine WL.extract rfl rfl rfl ?_)
  refine WL.call _ (fnT rfl) (args1 rfl) (stamp_c _ e.sa) (by rintro e w' ⟨rfl, _⟩; exact ⟨_, rfl⟩) rfl ?_
  rintro v W6 ⟨hv, hu6⟩
  cases hv
  have U6 : Up w W6 := U5.trans hu6
  refine ⟨⟨hR1.up (UU.trans hu6), hR2.up (UU.trans hu6)⟩, ?_⟩
  replace UU := UU.trans hu6
  repeat (first | refine WL.move rfl rfl ?_ | refine WL.assign rfl rfl ?_ | refine W.seq ?_ | refine W.region ?_ | refine WL.nil ?_ | refine Post.next ?_ | refine Post.tail ?_ | refine W.cond_t rfl ?_ | refine W.cond_f rfl ?_ | refine W.block ?_ | refine W.skip ?_ | refine W.exit ?_ | refine W.ret ?_ | refine Post.block_exit ?_ | refine Post.block_other rfl ?_ | refine Post.then_exit ?_ | refine Post.then_ret ?_ | refine Post.block_ret ?_ | refine Post.block_normal ?_ | refine WL.lenS (tyS rfl) rfl rfl ?_ | refine WL.lenStr und9 rfl rfl ?_ | refine WL.fieldAddr (tyF rfl) rfl rfl ?_ | refine WL.not rfl rfl ?_ | refine WL.pick_t rfl rfl rfl ?_ | refine WL.pick_f rfl rfl rfl ?_ | refine WL.want rfl rfl ?_ | refine WL.skip rfl rfl rfl rfl ?_ | refine WL.extract rfl rfl rfl ?_)
  refine WL.call _ (fnT rfl) (args1 rfl) (stamp_c _ e.sb) (by rintro e w' ⟨rfl, _⟩; exact ⟨_, rfl⟩) rfl ?_
  rintro v W7 ⟨hv, hu7⟩
  cases hv
  have U7 : Up w W7 := U6.trans hu7
  refine ⟨⟨hR1.up (UU.trans hu7), hR2.up (UU.trans hu7)⟩, ?_⟩
  replace UU := UU.trans hu7
  repeat (first | refine WL.move rfl rfl ?_ | refine WL.assign rfl rfl ?_ | refine W.seq ?_ | refine W.region ?_ | refine WL.nil ?_ | refine Post.next ?_ | refine Post.tail ?_ | refine W.cond_t rfl ?_ | refine W.cond_f rfl ?_ | refine W.block ?_ | refine W.skip ?_ | refine W.exit ?_ | refine W.ret ?_ | refine Post.block_exit ?_ | refine Post.block_other rfl ?_ | refine Post.then_exit ?_ | refine Post.then_ret ?_ | refine Post.block_ret ?_ | refine Post.block_normal ?_ | refine WL.lenS (tyS rfl) rfl rfl ?_ | refine WL.lenStr und9 rfl rfl ?_ | refine WL.fieldAddr (tyF rfl) rfl rfl ?_ | refine WL.not rfl rfl ?_ | refine WL.pick_t rfl rfl rfl ?_ | refine WL.pick_f rfl rfl rfl ?_ | refine WL.want rfl rfl ?_ | refine WL.skip rfl rfl rfl rfl ?_ | refine WL.extract rfl rfl rfl ?_)
  refine WL.call _ (fnT rfl) (args1 rfl) (b1TimeL_v _ _ e.xAb (hok.up (U7)).Ab hb.Ab) (by rintro e w' ⟨_, _, rfl, _⟩; exact ⟨_, rfl⟩) rfl ?_
  rintro v W8 ⟨aAb, cAb, hv, hEAb, hnAb, hLAb, hu8⟩
  cases hv
  have U8 : Up w W8 := U7.trans hu8
  refine ⟨⟨hR1.up (UU.trans hu8), hR2.up (UU.trans hu8)⟩, ?_⟩
  replace UU := UU.trans hu8
  repeat (first | refine WL.move rfl rfl ?_ | refine WL.assign rfl rfl ?_ | refine W.seq ?_ | refine W.region ?_ | refine WL.nil ?_ | refine Post.next ?_ | refine Post.tail ?_ | refine W.cond_t rfl ?_ | refine W.cond_f rfl ?_ | refine W.block ?_ | refine W.skip ?_ | refine W.exit ?_ | refine W.ret ?_ | refine Post.block_exit ?_ | refine Post.block_other rfl ?_ | refine Post.then_exit ?_ | refine Post.then_ret ?_ | refine Post.block_ret ?_ | refine Post.block_normal ?_ | refine WL.lenS (tyS rfl) rfl rfl ?_ | refine WL.lenStr und9 rfl rfl ?_ | refine WL.fieldAddr (tyF rfl) rfl rfl ?_ | refine WL.not rfl rfl ?_ | refine WL.pick_t rfl rfl rfl ?_ | refine WL.pick_f rfl rfl rfl ?_ | refine WL.want rfl rfl ?_ | refine WL.skip rfl rfl rfl rfl ?_ | refine WL.extract rfl rfl rfl ?_)
  refine WL.call _ (fnT rfl) (args1 rfl) (stamp_c _ e.sc) (by rintro e w' ⟨rfl, _⟩; exact ⟨_, rfl⟩) rfl ?_
  rintro v W9 ⟨hv, hu9⟩
  cases hv
  have U9 : Up w W9 := U8.trans hu9
  refine ⟨⟨hR1.up (UU.trans hu9), hR2.up (UU.trans hu9)⟩, ?_⟩
  replace UU := UU.trans hu9
  repeat (first | refine WL.move rfl rfl ?_ | refine WL.assign rfl rfl ?_ | refine W.seq ?_ | refine W.region ?_ | refine WL.nil ?_ | refine Post.next ?_ | refine Post.tail ?_ | refine W.cond_t rfl ?_ | refine W.cond_f rfl ?_ | refine W.block ?_ | refine W.skip ?_ | refine W.exit ?_ | refine W.ret ?_ | refine Post.block_exit ?_ | refine Post.block_other rfl ?_ | refine Post.then_exit ?_ | refine Post.then_ret ?_ | refine Post.block_ret ?_ | refine Post.block_normal ?_ | refine WL.lenS (tyS rfl) rfl rfl ?_ | refine WL.lenStr und9 rfl rfl ?_ | refine WL.fieldAddr (tyF rfl) rfl rfl ?_ | refine WL.not rfl rfl ?_ | refine WL.pick_t rfl rfl rfl ?_ | refine WL.pick_f rfl rfl rfl ?_ | refine WL.want rfl rfl ?_ | refine WL.skip rfl rfl rfl rfl ?_ | refine WL.extract rfl rfl rfl ?_)
  refine WL.call _ (fnT rfl) (args1 rfl) (b1TimeL_v _ _ e.xR (hok.up (U9)).R hb.R) (by rintro e w' ⟨_, _, rfl, _⟩; exact ⟨_, rfl⟩) rfl ?_
  rintro v W10 ⟨aR, cR, hv, hER, hnR, hLR, hu10⟩
  cases hv
  have U10 : Up w W10 := U9.trans hu10
  refine ⟨⟨hR1.up (UU.trans hu10), hR2.up (UU.trans hu10)⟩, ?_⟩
  replace UU := UU.trans hu10
  repeat (first | refine WL.move rfl rfl ?_ | refine WL.assign rfl rfl ?_ | refine W.seq ?_ | refine W.region ?_ | refine WL.nil ?_ | refine Post.next ?_ | refine Post.tail ?_ | refine W.cond_t rfl ?_ | refine W.cond_f rfl ?_ | refine W.block ?_ | refine W.skip ?_ | refine W.exit ?_ | refine W.ret ?_ | refine Post.block_exit ?_ | refine Post.block_other rfl ?_ | refine Post.then_exit ?_ | refine Post.then_ret ?_ | refine Post.block_ret ?_ | refine Post.block_normal ?_ | refine WL.lenS (tyS rfl) rfl rfl ?_ | refine WL.lenStr und9 rfl rfl ?_ | refine WL.fieldAddr (tyF rfl) rfl rfl ?_ | refine WL.not rfl rfl ?_ | refine WL.pick_t rfl rfl rfl ?_ | refine WL.pick_f rfl rfl rfl ?_ | refine WL.want rfl rfl ?_ | refine WL.skip rfl rfl rfl rfl ?_ | refine WL.extract rfl rfl rfl ?_)
  refine WL.call _ (fnT rfl) (args1 rfl) (b1TimeL_v _ _ e.xKA (hok.up (U10)).KA hb.KA) (by rintro e w' ⟨_, _, rfl, _⟩; exact ⟨_, rfl⟩) rfl ?_
  rintro v W11 ⟨aKA, cKA, hv, hEKA, hnKA, hLKA, hu11⟩
  cases hv
  have U11 : Up w W11 := U10.trans hu11
  refine ⟨⟨hR1.up (UU.trans hu11), hR2.up (UU.trans hu11)⟩, ?_⟩
  replace UU := UU.trans hu11
  repeat (first | refine WL.move rfl rfl ?_ | refine WL.assign rfl rfl ?_ | refine W.seq ?_ | refine W.region ?_ | refine WL.nil ?_ | refine Post.next ?_ | refine Post.tail ?_ | refine W.cond_t rfl ?_ | refine W.cond_f rfl ?_ | refine W.block ?_ | refine W.skip ?_ | refine W.exit ?_ | refine W.ret ?_ | refine Post.block_exit ?_ | refine Post.block_other rfl ?_ | refine Post.then_exit ?_ | refine Post.then_ret ?_ | refine Post.block_ret ?_ | refine Post.block_normal ?_ | refine WL.lenS (tyS rfl) rfl rfl ?_ | refine WL.lenStr und9 rfl rfl ?_ | refine WL.fieldAddr (tyF rfl) rfl rfl ?_ | refine WL.not rfl rfl ?_ | refine WL.pick_t rfl rfl rfl ?_ | refine WL.pick_f rfl rfl rfl ?_ | refine WL.want rfl rfl ?_ | refine WL.skip rfl rfl rfl rfl ?_ | refine WL.extract rfl rfl rfl ?_)
  refine WL.build (parts12 rfl rfl rfl rfl rfl rfl rfl rfl rfl rfl rfl rfl) (build68f _ _ _ _ _ _ _ _ _ _ _ _ _ _ _ _ _ _ _ _ _ _ _ _ _ _ _ _) rfl ?_
  refine WL.nil ?_
  refine Post.fin ?_
  have X11 : Up W11 W11 := Up.refl _
  have X10 : Up W10 W11 := hu11.trans X11
  have X9 : Up W9 W11 := hu10.trans X10
  have X8 : Up W8 W11 := hu9.trans X9
  have X7 : Up W7 W11 := hu8.trans X8
  have X6 : Up W6 W11 := hu7.trans X7
  have X5 : Up W5 W11 := hu6.trans X6
  have X4 : Up W4 W11 := hu5.trans X5
  have X3 : Up W3 W11 := hu4.trans X4
  have X2 : Up W2 W11 := hu3.trans X3
  have X1 : Up W1 W11 := hu2.trans X2
  have hT : TVs W11 ⟨.slice aC e.xC.length cC, .slice aM e.xM.length cM, .slice aS e.xS.length cS, .slice aD e.xD.length cD, .slice aDS e.xDS.length cDS, .slice aAb e.xAb.length cAb, .slice aR e.xR.length cR, .slice aKA e.xKA.length cKA⟩ e := ⟨⟨hEC.up X1, hnC⟩, ⟨hEM.up X2, hnM⟩, ⟨hES.up X3, hnS⟩, ⟨hED.up X4, hnD⟩, ⟨hEDS.up X5, hnDS⟩, ⟨hEAb.up X8, hnAb⟩, ⟨hER.up X10, hnR⟩, ⟨hEKA.up X11, hnKA⟩⟩
  refine WL.storeAgg (vs := TE.cells ⟨.slice aC e.xC.length cC, .slice aM e.xM.length cM, .slice aS e.xS.length cS, .slice aD e.xD.length cD, .slice aDS e.xDS.length cDS, .slice aAb e.xAb.length cAb, .slice aR e.xR.length cR, .slice aKA e.xKA.length cKA⟩ e) (o' := 0) (tyA rfl) rfl rfl rfl hT.one (hR2.up UU) rfl (by simp [TE.cells, zE]) ?_
  intro w3 hg3 hz3 hr3
  refine ⟨trivial, ?_⟩
  rw [spl_all (by simp [TE.cells, zE])] at hr3
  have hstep : ∀ k, some g2 = some k → g2 ≤ k := by intro k hk; cases hk; exact Nat.le_refl _
  have huz : Up w w3 := U11.step hg3 (by intro k hk; cases hk; omega)
  repeat (first | refine WL.move rfl rfl ?_ | refine WL.assign rfl rfl ?_ | refine W.seq ?_ | refine W.region ?_ | refine WL.nil ?_ | refine Post.next ?_ | refine Post.tail ?_ | refine W.cond_t rfl ?_ | refine W.cond_f rfl ?_ | refine W.block ?_ | refine W.skip ?_ | refine W.exit ?_ | refine W.ret ?_ | refine Post.block_exit ?_ | refine Post.block_other rfl ?_ | refine Post.then_exit ?_ | refine Post.then_ret ?_ | refine Post.block_ret ?_ | refine Post.block_normal ?_ | refine WL.lenS (tyS rfl) rfl rfl ?_ | refine WL.lenStr und9 rfl rfl ?_ | refine WL.fieldAddr (tyF rfl) rfl rfl ?_ | refine WL.not rfl rfl ?_ | refine WL.pick_t rfl rfl rfl ?_ | refine WL.pick_f rfl rfl rfl ?_ | refine WL.want rfl rfl ?_ | refine WL.skip rfl rfl rfl rfl ?_ | refine WL.extract rfl rfl rfl ?_)
  have hg2lt : g2 < w2.drew.heap.size := hR2.lt
  refine Post.retAgg rfl (tyA rfl) rfl hr3 rfl ⟨⟨.slice aC e.xC.length cC, .slice aM e.xM.length cM, .slice aS e.xS.length cS, .slice aD e.xD.length cD, .slice aDS e.xDS.length cDS, .slice aAb e.xAb.length cAb, .slice aR e.xR.length cR, .slice aKA e.xKA.length cKA⟩, rfl, ?_, ?_, huz⟩
  · have s0 := U0.size
    have s1 := hu1.size
    have s2 := hu2.size
    have s3 := hu3.size
    have s4 := hu4.size
    have s5 := hu5.size
    have s6 := hu6.size
    have s7 := hu7.size
    have s8 := hu8.size
    have s9 := hu9.size
    have s10 := hu10.size
    exact ⟨⟨hT.C.1.kept hg3 (by intro ad l c h; cases h; have := hLC _ rfl; omega), hT.C.2⟩, ⟨hT.M.1.kept hg3 (by intro ad l c h; cases h; have := hLM _ rfl; omega), hT.M.2⟩, ⟨hT.S.1.kept hg3 (by intro ad l c h; cases h; have := hLS _ rfl; omega), hT.S.2⟩, ⟨hT.D.1.kept hg3 (by intro ad l c h; cases h; have := hLD _ rfl; omega), hT.D.2⟩, ⟨hT.DS.1.kept hg3 (by intro ad l c h; cases h; have := hLDS _ rfl; omega), hT.DS.2⟩, ⟨hT.Ab.1.kept hg3 (by intro ad l c h; cases h; have := hLAb _ rfl; omega), hT.Ab.2⟩, ⟨hT.R.1.kept hg3 (by intro ad l c h; cases h; have := hLR _ rfl; omega), hT.R.2⟩, ⟨hT.KA.1.kept hg3 (by intro ad l c h; cases h; have := hLKA _ rfl; omega), hT.KA.2⟩⟩
  · have s0 := U0.size
    have s1 := hu1.size
    have s2 := hu2.size
    have s3 := hu3.size
    have s4 := hu4.size
    have s5 := hu5.size
    have s6 := hu6.size
    have s7 := hu7.size
    have s8 := hu8.size
    have s9 := hu9.size
    have s10 := hu10.size
    exact ⟨(fun ad l c h => by cases h; have := hLC _ rfl; omega), (fun ad l c h => by cases h; have := hLM _ rfl; omega), (fun ad l c h => by cases h; have := hLS _ rfl; omega), (fun ad l c h => by cases h; have := hLD _ rfl; omega), (fun ad l c h => by cases h; have := hLDS _ rfl; omega), (fun ad l c h => by cases h; have := hLAb _ rfl; omega), (fun ad l c h => by cases h; have := hLR _ rfl; omega), (fun ad l c h => by cases h; have := hLKA _ rfl; omega)⟩
end Go.Lx
