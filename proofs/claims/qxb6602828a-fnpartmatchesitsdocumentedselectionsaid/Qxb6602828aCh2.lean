import Derived.Test.Qxb6602828aCh1
namespace Go.Lx
open Go.Proofs Go.RowKit

/-! ### append, with the place of the new row -/
section
variable {P : Program} (w : World)
theorem run_append_loc (base : Nat) (t ty e : TypeId) (i : TypeInfo) (z : Value) (size bytes : Nat) (ht : P.underlying t = some (.slice e)) (hi : P.info? e = some i) (hz : i.zero = some z)
    (hsize : i.size = size) (hby : i.bytes = bytes) (hzs : z.cells.size = size) (hsz : 0 < size)
    (v : Value) (n : Nat) (xs : List Value) (hown : w.ownsRow base e size v n xs)
    (a : Addr) (m c : Nat) (news : List Value) (hm : m = 1) (hl : news.length = m * size) (hnews : ∀ j u, news[j]? = some u → w.cell? (a.add j) = some u) (h1 : ∀ u ∈ news, u.oneCell' = true)
    (h63 : n + m ≤ maxLen) (hbytes : (n + m) * bytes ≤ 140737488355328) (hbase : base ≤ w.heap.size) :
    ∃ v' w', (Builtin.append_ #[t, t] ty #[v, .slice (some a) m c]).run P w = .ok v' w' ∧ w'.ownsRow base e size v' (n + m) (xs ++ news) ∧ w.grownBy w' v.ownBlock ∧ (v'.ownBlock = v.ownBlock ∨ v'.ownBlock = some w.heap.size) ∧ v'.ownBlock.isSome := by
  obtain ⟨v', w', hr, h2, h3, h4⟩ := run_append_own (P := P) w base t ty e i z size bytes ht hi hz hsize hby hzs hsz v n xs hown a m c news hl hnews h1 h63 hbytes hbase
  have hne : v' ≠ .slice none 0 0 := fun e => by have := (h4.1 e).2; omega
  have hsome : v'.ownBlock.isSome := by
    rcases h2.2 with ⟨h, _⟩ | ⟨g, cap, cur, h, _⟩
    · exact absurd h hne
    · rw [h]; rfl
  refine ⟨v', w', hr, h2, h3, ?_, hsome⟩
  subst hsize
  subst hby
  have hsmall : n + m ≤ 9223372036854775807 := by simp only [maxLen] at h63; omega
  rcases hown.2 with ⟨rfl, rfl⟩ | ⟨g, cap, cur, rfl, hbg, hg, hnc, hcm, hcs, htake⟩
  · have hr' := run_append_nil (P := P) w t ty e i z ht hi hz a m c news hl hnews (by omega) (by omega) (by have hb := hbytes; simp only [Nat.zero_add] at hb; omega)
    rw [hr'] at hr
    cases hr
    exact .inr rfl
  · by_cases hroom : n + m ≤ cap
    · have hfit : n * i.size + news.length ≤ cur.size := by rw [hl, hcs, ← Nat.add_mul]; exact Nat.mul_le_mul_right _ hroom
      have hr' := run_append_room (P := P) w t ty e i ht hi g n cap cur hg a m c news hl hnews h1 hroom hfit
      rw [hr'] at hr
      cases hr
      exact .inl rfl
    · have holds : ∀ j u, xs[j]? = some u → w.cell? ((⟨g, 0, none⟩ : Addr).add j) = some u := hown.cells (g := g) rfl
      have hr' := run_append_grow (P := P) w t ty e i z ht hi hz ⟨g, 0, none⟩ n cap xs hown.1 holds a m c news hl hnews (by omega) (by omega) (growslice_fits (by omega) hbytes)
      rw [hr'] at hr
      cases hr
      exact .inr rfl
end
section effects
variable {P : Program} {ops : Array Oper} {Q : Exit → Act → World → Prop} {S : World → Prop} {r : List (Oper × Bool)} {n : Nat} {env : Env} {w : World}
variable {d : Nat} {ty : TypeId} {pos : String} {aft : Array Edge}
theorem WL.appendL {t e kk bytes : Nat} {zs : List Value} {s x : Operand} {v : Value} {m B h c : Nat} {xs news : List Value} {tt : TypeId} (ht : MakeTy P t e kk bytes zs) (hs : ev env s = some v) (hx : ev env x = some (.slice (some ⟨h, 0, none⟩) 1 c)) (hown : w.ownsRow B e kk v m xs)
    (hr : Row w h news tt) (hl : news.length = kk) (h1 : ∀ u ∈ news, u.oneCell' = true) (hm : (m + 1) * bytes ≤ 140737488355328) (hm' : m + 1 ≤ 9223372036854775807) (hB : B ≤ w.heap.size) (hd : Nat.blt d n = true)
    (k : ∀ v' w1, w1.ownsRow B e kk v' (m + 1) (xs ++ news) → w.grownBy w1 v.ownBlock → (v'.ownBlock = v.ownBlock ∨ v'.ownBlock = some w.heap.size) → v'.ownBlock.isSome → S w1 ∧ WL P ops Q S r n ((d, v') :: env) w1) :
    WL P ops Q S (({ dst := some d, op := .call { callee := .builtin .append, args := #[s, x], argTypes := #[t, t] }, type := ty, pos := pos, after := aft, guard := none }, false) :: r) n env w := by
  obtain ⟨hu, i, z, hi, hz, hsz, hby, hc, hzl, h0⟩ := ht
  obtain ⟨v', w', hrun, ho, hg, hn, hn'⟩ := run_append_loc (P := P) w B t ty e i z kk bytes hu hi hz hsz hby (by rw [hc]; simpa using hzl) h0 v m xs hown ⟨h, 0, none⟩ 1 c news rfl (by omega) (fun j u hj => by rw [add_none, Nat.zero_add]; exact hr.cell hj) h1 (by simp only [maxLen]; omega) hm hB
  refine WL.eff rfl hd (fun u w1 => u = v' ∧ w1 = w') (fun ρ hρ => ⟨_, _, ?_, rfl, rfl⟩) ?_
  · simp [execOp, resolve, invoke, builtin, hρ s _ hs, hρ x _ hx, hrun]
  · rintro u w1 ⟨rfl, rfl⟩
    exact k _ _ ho hg hn hn'
end effects

/-! ### The plain side of 'children' -/
def kids (L : List ByteArray) (d : ByteArray) : List ByteArray := L.filter fun q => decide (parentG q = d)
def pIter : Nat → ByteArray → ByteArray
  | 0, p => p
  | n + 1, p => parentG (pIter n p)
/-- A path of the two trees, or above one. -/
def Anc (T : ByteArray → Prop) (q : ByteArray) : Prop := ∃ p n, T p ∧ pIter n p = q
theorem Anc.up {T : ByteArray → Prop} {q : ByteArray} (h : Anc T q) : Anc T (parentG q) := by
  obtain ⟨p, n, hp, rfl⟩ := h
  exact ⟨p, n + 1, hp, rfl⟩
theorem Anc.self {T : ByteArray → Prop} {q : ByteArray} (h : T q) : Anc T q := ⟨q, 0, h, rfl⟩

/-- What 'link' keeps: T: the paths of both trees; D: those that were linked; L: what lies in the lists; M: 'between'; p: what is still to be linked. -/
structure LInv (T D : ByteArray → Prop) (L M : List ByteArray) (p : ByteArray) : Prop where
  nd : L.Nodup
  mem : ∀ q, q ∈ L ↔ q ≠ eB ∧ q ≠ p ∧ (D q ∨ q ∈ M)
  out : ∀ q ∈ M, ¬ T q
  clo : ∀ q ∈ L, T (parentG q) ∨ parentG q ∈ M
  anc : ∀ q ∈ M, Anc T q
  sub : ∀ q, D q → T q
  pan : p ≠ eB → Anc T p
  pin : p = eB ∨ D p ∨ p ∈ M

theorem LInv.stop {T D : ByteArray → Prop} {L M : List ByteArray} {p : ByteArray} (h : LInv T D L M p) (hp : p ≠ eB) (hd : T (parentG p) ∨ parentG p ∈ M) : LInv T D (L ++ [p]) M eB := by
  have hpL : p ∉ L := fun hc => ((h.mem p).1 hc).2.1 rfl
  refine ⟨?_, fun q => ?_, h.out, fun q hq => ?_, h.anc, h.sub, fun h => absurd rfl h, .inl rfl⟩
  · rw [List.nodup_append]
    exact ⟨h.nd, by simp, fun a ha b hb e => by simp at hb; subst hb; subst e; exact hpL ha⟩
  · rw [List.mem_append, h.mem, List.mem_singleton]
    constructor
    · rintro (⟨h1, h2, h3⟩ | rfl)
      · exact ⟨h1, h1, h3⟩
      · exact ⟨hp, hp, h.pin.resolve_left hp⟩
    · rintro ⟨h1, _, h3⟩
      by_cases e : q = p
      · exact .inr e
      · exact .inl ⟨h1, e, h3⟩
  · rcases List.mem_append.1 hq with hq | hq
    · exact h.clo q hq
    · simp at hq; subst hq; exact hd
theorem LInv.step {T D : ByteArray → Prop} {L M : List ByteArray} {p : ByteArray} (h : LInv T D L M p) (hp : p ≠ eB) (hd : ¬ T (parentG p)) (hm : parentG p ∉ M) (M' : List ByteArray) (hM : ∀ q, q ∈ M' ↔ q = parentG p ∨ q ∈ M) : LInv T D (L ++ [p]) M' (parentG p) := by
  have hpL : p ∉ L := fun hc => ((h.mem p).1 hc).2.1 rfl
  refine ⟨?_, fun q => ?_, fun q hq => ?_, fun q hq => ?_, fun q hq => ?_, h.sub, fun _ => (h.pan hp).up, .inr (.inr ((hM _).2 (.inl rfl)))⟩
  · rw [List.nodup_append]
    exact ⟨h.nd, by simp, fun a ha b hb e => by simp at hb; subst hb; subst e; exact hpL ha⟩
  · rw [List.mem_append, h.mem, List.mem_singleton]
    constructor
    · rintro (⟨h1, h2, h3⟩ | rfl)
      · refine ⟨h1, fun e => ?_, h3.imp id (fun h => (hM q).2 (.inr h))⟩
        subst e
        exact h3.elim (fun h' => hd (h.sub _ h')) hm
      · refine ⟨hp, fun e => ?_, (h.pin.resolve_left hp).imp id (fun h => (hM _).2 (.inr h))⟩
        have := h.pin.resolve_left hp
        rw [e] at this
        exact this.elim (fun h' => hd (h.sub _ h')) hm
    · rintro ⟨h1, h2, h3⟩
      by_cases e : q = p
      · exact .inr e
      · exact .inl ⟨h1, e, h3.imp id (fun h => ((hM q).1 h).resolve_left h2)⟩
  · rcases (hM q).1 hq with rfl | hq
    · exact hd
    · exact h.out q hq
  · rcases List.mem_append.1 hq with hq | hq
    · exact (h.clo q hq).imp id (fun h => (hM _).2 (.inr h))
    · simp at hq; subst hq; exact .inr ((hM _).2 (.inl rfl))
  · rcases (hM q).1 hq with rfl | hq
    · exact (h.pan hp).up
    · exact h.anc q hq
theorem parentG_eB : parentG eB = eB := rfl
/-- When all paths are linked, the lists hold just the paths and what is above them. -/
theorem LInv.full {T : ByteArray → Prop} {L M : List ByteArray} (h : LInv T T L M eB) : ∀ q, q ∈ L ↔ q ≠ eB ∧ Anc T q := by
  intro q
  constructor
  · intro hq
    obtain ⟨h1, _, h3⟩ := (h.mem q).1 hq
    exact ⟨h1, h3.elim Anc.self (h.anc q)⟩
  · rintro ⟨h1, p, n, hp, rfl⟩
    induction n with
    | zero => exact (h.mem _).2 ⟨h1, h1, .inl hp⟩
    | succ n ih =>
      have hne : pIter n p ≠ eB := fun e => h1 (by simp only [pIter, e, parentG_eB])
      exact (h.mem _).2 ⟨h1, h1, h.clo _ (ih hne)⟩
end Go.Lx
