import Derived.Test.Qxb6602828aCh4
namespace Go.Lx
open Go.Proofs Go.RowKit

/-! ### Plain: the law's own list of nodes -/
structure NInv (T D : ByteArray → Prop) (N : List ByteArray) (p : ByteArray) : Prop where
  nd : N.Nodup
  anc : ∀ q ∈ N, q ≠ eB ∧ Anc T q
  clo : ∀ q ∈ N, parentG q = eB ∨ parentG q = p ∨ parentG q ∈ N
  don : ∀ q, D q → q = eB ∨ q = p ∨ q ∈ N
  pan : p = eB ∨ Anc T p
theorem NInv.init (T : ByteArray → Prop) (D : ByteArray → Prop) (hD : ∀ q, ¬ D q) : NInv T D [] eB := ⟨.nil, by simp, by simp, fun q h => absurd h (hD q), .inl rfl⟩
theorem NInv.stop {T D : ByteArray → Prop} {N : List ByteArray} {p : ByteArray} (h : NInv T D N p) (hp : p = eB ∨ p ∈ N) : NInv T D N eB := by
  refine ⟨h.nd, h.anc, fun q hq => ?_, fun q hq => ?_, .inl rfl⟩
  · rcases h.clo q hq with e | e | e
    · exact .inl e
    · rcases hp with e' | e'
      · exact .inl (e.trans e')
      · exact .inr (.inr (e ▸ e'))
    · exact .inr (.inr e)
  · rcases h.don q hq with e | e | e
    · exact .inl e
    · rcases hp with e' | e'
      · exact .inl (e.trans e')
      · exact .inr (.inr (e ▸ e'))
    · exact .inr (.inr e)
theorem NInv.step {T D : ByteArray → Prop} {N : List ByteArray} {p : ByteArray} (h : NInv T D N p) (hp : p ≠ eB) (hn : p ∉ N) : NInv T D (N ++ [p]) (parentG p) := by
  have hanc := h.pan.resolve_left hp
  refine ⟨?_, fun q hq => ?_, fun q hq => ?_, fun q hq => ?_, .inr hanc.up⟩
  · rw [List.nodup_append]
    exact ⟨h.nd, by simp, fun a ha b hb e => by simp at hb; subst hb; subst e; exact hn ha⟩
  · rcases List.mem_append.1 hq with hq | hq
    · exact h.anc q hq
    · simp at hq; subst hq; exact ⟨hp, hanc⟩
  · rcases List.mem_append.1 hq with hq | hq
    · rcases h.clo q hq with e | e | e
      · exact .inl e
      · exact .inr (.inr (by simp [e]))
      · exact .inr (.inr (by simp [e]))
    · simp at hq; subst hq; exact .inr (.inl rfl)
  · rcases h.don q hq with e | e | e
    · exact .inl e
    · exact .inr (.inr (by simp [e]))
    · exact .inr (.inr (by simp [e]))
theorem NInv.begin {T D D' : ByteArray → Prop} {N : List ByteArray} {p : ByteArray} (h : NInv T D N eB) (hp : T p) (hD : ∀ q, D' q → D q ∨ q = p) : NInv T D' N p := by
  refine ⟨h.nd, h.anc, fun q hq => ?_, fun q hq => ?_, .inr (Anc.self hp)⟩
  · rcases h.clo q hq with e | e | e
    · exact .inl e
    · exact .inl e
    · exact .inr (.inr e)
  · rcases hD q hq with h' | rfl
    · rcases h.don q h' with e | e | e
      · exact .inl e
      · exact .inl e
      · exact .inr (.inr e)
    · exact .inr (.inl rfl)
theorem NInv.congr {T D D' : ByteArray → Prop} {N : List ByteArray} {p : ByteArray} (h : NInv T D N p) (hD : ∀ q, D' q → D q) : NInv T D' N p := ⟨h.nd, h.anc, h.clo, fun q hq => h.don q (hD q hq), h.pan⟩
theorem NInv.full {T : ByteArray → Prop} {N : List ByteArray} (h : NInv T T N eB) : ∀ q, q ∈ N ↔ q ≠ eB ∧ Anc T q := by
  intro q
  refine ⟨h.anc q, ?_⟩
  rintro ⟨h1, p, n, hp, rfl⟩
  induction n with
  | zero => rcases h.don p hp with e | e | e
            · exact absurd e h1
            · exact absurd e h1
            · exact e
  | succ n ih =>
    have hne : pIter n p ≠ eB := fun e => h1 (by simp only [pIter, e, parentG_eB])
    rcases h.clo _ (ih hne) with e | e | e
    · exact absurd e h1
    · exact absurd e h1
    · exact e
theorem perm_nodup {a b : List ByteArray} (ha : a.Nodup) (hb : b.Nodup) (h : ∀ x, x ∈ a ↔ x ∈ b) : a.Perm b := (List.perm_ext_iff_of_nodup ha hb).2 h
theorem kids_perm {a b : List ByteArray} (h : a.Perm b) (d : ByteArray) : (kids a d).length = (kids b d).length := (h.filter _).length_eq

/-! ### Counting -/
structure CInv (M : List ByteArray) (cm : KV) (Ps : List ByteArray) : Prop where
  cnt : ∀ d, (mget cm d).getD (.int .i64 0) = .int .i64 ((kids M d).length : Int)
  nd : Ps.Nodup
  mem : ∀ d, d ∈ Ps ↔ ∃ q ∈ M, parentG q = d
  len : Ps.length ≤ M.length
theorem CInv.init : CInv [] [] [] := ⟨by simp [mget, kids], .nil, by simp, by simp⟩
theorem kids_pos {M : List ByteArray} {d : ByteArray} : (kids M d).length = 0 ↔ ¬ ∃ q ∈ M, parentG q = d := by
  rw [List.length_eq_zero_iff]
  constructor
  · rintro h ⟨q, hq, e⟩
    have : q ∈ kids M d := by simp [kids, hq, e]
    rw [h] at this; simp at this
  · exact kids_nil
theorem CInv.set {M : List ByteArray} {cm : KV} {p : ByteArray} (h : ∀ d, (mget cm d).getD (.int .i64 0) = .int .i64 ((kids M d).length : Int)) : ∀ d, (mget (mset cm (parentG p) (.int .i64 (((kids M (parentG p)).length : Int) + 1))) d).getD (.int .i64 0) = .int .i64 ((kids (M ++ [p]) d).length : Int) := by
  intro d
  rw [mget_mset, kids_snoc]
  by_cases e : parentG p = d
  · rw [if_pos e, if_pos e]; subst e; simp
  · rw [if_neg e, if_neg e, h]; simp
theorem CInv.old {M : List ByteArray} {cm : KV} {Ps : List ByteArray} {p : ByteArray} (h : CInv M cm Ps) (hz : (kids M (parentG p)).length ≠ 0) : CInv (M ++ [p]) (mset cm (parentG p) (.int .i64 (((kids M (parentG p)).length : Int) + 1))) Ps := by
  refine ⟨CInv.set h.cnt, h.nd, fun d => ?_, by have := h.len; simp; omega⟩
  rw [h.mem]
  constructor
  · rintro ⟨q, hq, e⟩; exact ⟨q, by simp [hq], e⟩
  · rintro ⟨q, hq, e⟩
    rcases List.mem_append.1 hq with hq | hq
    · exact ⟨q, hq, e⟩
    · simp at hq; subst hq; subst e
      exact Classical.byContradiction fun hc => hz (kids_pos.2 hc)
theorem CInv.new {M : List ByteArray} {cm : KV} {Ps : List ByteArray} {p : ByteArray} (h : CInv M cm Ps) (hz : (kids M (parentG p)).length = 0) : CInv (M ++ [p]) (mset cm (parentG p) (.int .i64 (((kids M (parentG p)).length : Int) + 1))) (Ps ++ [parentG p]) := by
  refine ⟨CInv.set h.cnt, ?_, fun d => ?_, by have := h.len; simp; omega⟩
  · rw [List.nodup_append]
    refine ⟨h.nd, by simp, fun a ha b hb e => ?_⟩
    simp at hb; subst hb; subst e
    exact kids_pos.1 hz ((h.mem _).1 ha)
  · rw [List.mem_append, List.mem_singleton, h.mem]
    constructor
    · rintro (⟨q, hq, e⟩ | rfl)
      · exact ⟨q, by simp [hq], e⟩
      · exact ⟨p, by simp, rfl⟩
    · rintro ⟨q, hq, e⟩
      rcases List.mem_append.1 hq with hq | hq
      · exact .inl ⟨q, hq, e⟩
      · simp at hq; subst hq; exact .inr e.symm

section
variable {P : Program} {ops : Array Oper} {Q : Exit → Act → World → Prop} {S : World → Prop} {r : List (Oper × Bool)} {b : Bool} {n : Nat} {env : Env} {w : World}
variable {d : Nat} {ty : TypeId} {pos : String} {aft : Array Edge}
theorem WL.look1v {t kt et : TypeId} {z v v' : Value} {x y : Operand} {m : KV} {s : ByteArray} (ht : MapTy P t kt et z) (hx : ev env x = some v) (hy : ev env y = some (.string s)) (hE : ∀ w', Cls b S w w' → w' = w) (hm : MapV w v m) (hv : (mget m s).getD z = v') (hd : Nat.blt d n = true)
    (k : WL P ops Q S r n ((d, v') :: env) w) :
    WL P ops Q S (({ dst := some d, op := .lookup t x y false, type := ty, pos := pos, after := aft, guard := none }, b) :: r) n env w :=
  WL.look1 ht hx hy hE hm hd (by rw [hv]; exact k)
theorem WL.look2v {t kt et : TypeId} {z v v' : Value} {x y : Operand} {m : KV} {s : ByteArray} (ht : MapTy P t kt et z) (hx : ev env x = some v) (hy : ev env y = some (.string s)) (hE : ∀ w', Cls b S w w' → w' = w) (hm : MapV w v m) (hv : mget m s = some v') (hd : Nat.blt d n = true)
    (k : WL P ops Q S r n ((d, .tuple #[v', .bool true]) :: env) w) :
    WL P ops Q S (({ dst := some d, op := .lookup t x y true, type := ty, pos := pos, after := aft, guard := none }, b) :: r) n env w :=
  WL.look2 ht hx hy hE hm hd (by rw [hv]; exact k)
end
theorem MapV.kd {w : World} {v : Value} {m : KV} (h : MapV w v m) : (keys m).Nodup := by
  rcases h with ⟨_, rfl⟩ | ⟨g, _, h⟩
  · exact .nil
  · exact h.kd
theorem StrsV_own {w : World} {B : Nat} {v : Value} {xs : List ByteArray} (h : w.ownsRow B 9 1 v xs.length (xs.map Value.string)) : StrsV w v xs := by
  obtain ⟨hl, h2⟩ := h
  rcases h2 with ⟨rfl, h0⟩ | ⟨g, cap, cur, rfl, hb, hg, hn, hm, hs, ht⟩
  · have : xs = [] := List.eq_nil_of_length_eq_zero h0
    subst this
    exact ⟨none, 0, rfl, ⟨fun h => absurd rfl h⟩, Nat.le_refl _⟩
  · refine ⟨some ⟨g, 0, none⟩, cap, rfl, ⟨fun _ => ⟨g, 0, rfl, fun i x hx => ?_⟩⟩, hn⟩
    have hi : i < xs.length := (List.getElem?_eq_some_iff.1 hx).1
    have h1 : (xs.map Value.string)[i]? = some (.string x) := by rw [List.getElem?_map, hx]; rfl
    rw [← ht, List.getElem?_take_of_lt (by omega)] at h1
    have hrow : Row w g cur.toList 9 := by simpa [Row] using hg
    simpa using hrow.cell h1
theorem map51 : MapTy Try.prog 51 9 3 (.int .i64 0) := MapTy.of (by kernel_rfl) und9 (by kernel_rfl)

/-- The law's map of what is in: the nodes, each at true. -/
structure InM (w : World) (g : Nat) (nm : KV) (N : List ByteArray) : Prop where
  map : MapIs w g nm
  ks : ∀ q, q ∈ keys nm ↔ q ∈ N
  tr : ∀ k v, mget nm k = some v → v = .bool true
theorem InM.get_in {w : World} {g : Nat} {nm : KV} {N : List ByteArray} (h : InM w g nm N) {q : ByteArray} (hq : q ∈ N) : (mget nm q).getD (.bool false) = .bool true := by
  obtain ⟨v, hv⟩ := mget_some.2 ((h.ks q).2 hq)
  rw [hv, h.tr q v hv]; rfl
theorem InM.get_out {w : World} {g : Nat} {nm : KV} {N : List ByteArray} (h : InM w g nm N) {q : ByteArray} (hq : q ∉ N) : (mget nm q).getD (.bool false) = .bool false := by
  rw [mget_none.2 (fun hc => hq ((h.ks q).1 hc))]; rfl
theorem InM.up {w w' : World} {g : Nat} {nm : KV} {N : List ByteArray} (h : InM w g nm N) (hu : Up w w') : InM w' g nm N := ⟨h.map.up hu, h.ks, h.tr⟩
theorem InM.set {w w' : World} {g : Nat} {nm : KV} {N : List ByteArray} (h : InM w g nm N) (q : ByteArray) (hm : MapIs w' g (mset nm q (.bool true))) : InM w' g (mset nm q (.bool true)) (N ++ [q]) := by
  refine ⟨hm, fun x => ?_, fun k v hv => ?_⟩
  · rw [mem_keys_mset, h.ks]; simp [or_comm]
  · rw [mget_mset] at hv
    split at hv
    · cases hv; rfl
    · exact h.tr k v hv
theorem own_str_snoc {w : World} {B : Nat} {v : Value} {xs : List ByteArray} {x : ByteArray} (h : w.ownsRow B 9 1 v (xs.length + 1) (xs.map Value.string ++ [.string x])) : w.ownsRow B 9 1 v (xs ++ [x]).length ((xs ++ [x]).map Value.string) := by simpa using h
end Go.Lx
