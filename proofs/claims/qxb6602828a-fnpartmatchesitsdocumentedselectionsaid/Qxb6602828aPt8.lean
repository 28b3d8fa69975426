import Derived.Test.Qxb6602828aPt7
namespace Go.Lx
open Go.Proofs Go.RowKit

instance : Inhabited Stm := ⟨zS⟩
instance : Inhabited E1 := ⟨{ path := eB, kind := 0, vC := .slice none 0 0, vM := .slice none 0 0, vS := .slice none 0 0, vD := .slice none 0 0, vDS := .slice none 0 0, vAb := .slice none 0 0, vR := .slice none 0 0, vKA := .slice none 0 0, xC := [], xM := [], xS := [], xD := [], xDS := [], xAb := [], xR := [], xKA := [], sa := zS, sb := zS, sc := zS }⟩
/-- The map of the last index of each path. -/
structure IX (es : List E1) (k : Nat) (m : KV) : Prop where
  get : ∀ p v, mget m p = some v → ∃ j e, v = .int .i64 ((j : Nat) : Int) ∧ j < k ∧ es[j]? = some e ∧ e.path = p
  has : ∀ j e, j < k → es[j]? = some e → e.path ∈ keys m
def idxOf (m : KV) (p : ByteArray) : Nat := match mget m p with
  | some (.int _ j) => j.toNat
  | _ => 0
theorem idxOf_set (m : KV) (q : ByteArray) (k : Nat) (p : ByteArray) : idxOf (mset m q (.int .i64 (k : Int))) p = if q = p then k else idxOf m p := by
  unfold idxOf
  rw [mget_mset]
  by_cases e : q = p
  · rw [if_pos e, if_pos e]; simp
  · rw [if_neg e, if_neg e]
def entOf (es : List E1) (m : KV) (p : ByteArray) : E1 := (es[idxOf m p]?).getD default
theorem IX.at {es : List E1} {k : Nat} {m : KV} (h : IX es k m) {p : ByteArray} (hp : p ∈ keys m) : ∃ e, es[idxOf m p]? = some e ∧ e.path = p ∧ idxOf m p < k ∧ mget m p = some (.int .i64 (idxOf m p : Int)) := by
  obtain ⟨v, hv⟩ := mget_some.2 hp
  obtain ⟨j, e, rfl, hj, he, hpe⟩ := h.get p v hv
  have : idxOf m p = j := by simp [idxOf, hv]
  rw [this]
  exact ⟨e, he, hpe, hj, hv⟩
theorem IX.getD {es : List E1} {k : Nat} {m : KV} (h : IX es k m) (p : ByteArray) : (mget m p).getD (.int .i64 0) = .int .i64 (idxOf m p : Int) := by
  by_cases hp : p ∈ keys m
  · obtain ⟨_, _, _, _, h4⟩ := h.at hp
    rw [h4]; rfl
  · have : mget m p = none := mget_none.2 hp
    simp [idxOf, this]
theorem IX.init (es : List E1) : IX es 0 [] := ⟨fun p v h => by simp [mget] at h, fun j e h => by omega⟩
theorem IX.step {es : List E1} {k : Nat} {m : KV} {e : E1} (h : IX es k m) (he : es[k]? = some e) : IX es (k + 1) (mset m e.path (.int .i64 (k : Int))) := by
  refine ⟨fun p v hv => ?_, fun j x hj hx => ?_⟩
  · rw [mget_mset] at hv
    by_cases eq : e.path = p
    · rw [if_pos eq] at hv
      cases hv
      exact ⟨k, e, rfl, by omega, he, eq⟩
    · rw [if_neg eq] at hv
      obtain ⟨j, x, h1, h2, h3⟩ := h.get p v hv
      exact ⟨j, x, h1, by omega, h3⟩
  · rw [mem_keys_mset]
    by_cases eq : j = k
    · subst eq; rw [he] at hx; cases hx; exact .inl rfl
    · exact .inr (h.has j x (by omega) hx)
structure TI (w : World) (es : List E1) (k : Nat) (T m : KV) : Prop where
  ks : ∀ p, p ∈ keys T ↔ p ∈ keys m
  ok : ∀ p v, mget T p = some v → ∃ e, es[idxOf m p]? = some e ∧ EntIs w v e
  len : T.length ≤ k
theorem TI.up {w w' : World} {es : List E1} {k : Nat} {T m : KV} (h : TI w es k T m) (hu : Up w w') : TI w' es k T m := ⟨h.ks, fun p v hv => let ⟨e, h1, h2⟩ := h.ok p v hv; ⟨e, h1, h2.up hu⟩, h.len⟩
theorem TI.step {w : World} {es : List E1} {k : Nat} {T m : KV} {e : E1} {u : Value} (h : TI w es k T m) (he : es[k]? = some e) (hu : EntIs w u e) : TI w es (k + 1) (mset T e.path u) (mset m e.path (.int .i64 (k : Int))) := by
  refine ⟨fun p => by rw [mem_keys_mset, mem_keys_mset, h.ks], fun p v hv => ?_, ?_⟩
  · rw [mget_mset] at hv
    rw [idxOf_set]
    by_cases eq : e.path = p
    · rw [if_pos eq] at hv ⊢
      cases hv
      exact ⟨e, he, hu⟩
    · rw [if_neg eq] at hv ⊢
      exact h.ok p v hv
  · have := h.len
    by_cases hin : e.path ∈ keys T
    · rw [mset_length_in _ hin]; omega
    · rw [mset_length_new _ hin]; omega
/-- Behind a store into a map: entries read on. -/
theorem cell_map {w w' : World} {g : Nat} {m : KV} (hm : MapIs w g m) (hg : w.grownBy w' (some g)) {p : Addr} {v : Value} (hc : w.cell? p = some v) : w'.cell? p = some v := by
  have hne : p.block ≠ g := by
    intro e
    obtain ⟨bs, clock, h⟩ := hm
    have := h.at_
    rw [← e] at this
    simp [World.cell?, this] at hc
  rw [World.cell?_of_block (w := w) (hg.block p.block (World.block_lt_of_cell? w p hc) (fun e => hne (Option.some.inj e)))]; exact hc
theorem ElsV.map {w w' : World} {v : Value} {xs : List El} {g : Nat} {m : KV} (h : ElsV w v xs) (hm : MapIs w g m) (hg : w.grownBy w' (some g)) : ElsV w' v xs := by
  obtain ⟨a, c, rfl, he, hc⟩ := h
  refine ⟨a, c, rfl, ⟨fun hx => ?_⟩, hc⟩
  obtain ⟨bk, o, rfl, hcell⟩ := he.ad hx
  exact ⟨bk, o, rfl, fun i x hx => ⟨cell_map hm hg (hcell i x hx).1, cell_map hm hg (hcell i x hx).2⟩⟩
theorem EntIs.map {w w' : World} {u : Value} {e : E1} {g : Nat} {m : KV} (h : EntIs w u e) (hm : MapIs w g m) (hg : w.grownBy w' (some g)) : EntIs w' u e := by
  obtain ⟨t, rfl, h⟩ := h
  exact ⟨t, rfl, ⟨h.C.1.map hm hg, h.C.2⟩, ⟨h.M.1.map hm hg, h.M.2⟩, ⟨h.S.1.map hm hg, h.S.2⟩, ⟨h.D.1.map hm hg, h.D.2⟩, ⟨h.DS.1.map hm hg, h.DS.2⟩, ⟨h.Ab.1.map hm hg, h.Ab.2⟩, ⟨h.R.1.map hm hg, h.R.2⟩, ⟨h.KA.1.map hm hg, h.KA.2⟩⟩
theorem TI.map {w w' : World} {es : List E1} {k : Nat} {T m : KV} {g : Nat} {mm : KV} (h : TI w es k T m) (hm : MapIs w g mm) (hg : w.grownBy w' (some g)) : TI w' es k T m := ⟨h.ks, fun p v hv => let ⟨e, h1, h2⟩ := h.ok p v hv; ⟨e, h1, h2.map hm hg⟩, h.len⟩
theorem TI.tm {w : World} {es : List E1} {k : Nat} {T m : KV} (h : TI w es k T m) (hx : IX es k m) (hb : ∀ e ∈ es, e.bnd 1048576) (hs : ∀ e ∈ es, Srt e.xS) (hp : ∀ e ∈ es, e.path.size ≤ 4096) : TM w T (entOf es m) := by
  refine ⟨fun p v hv => ?_, fun p hp' => ?_⟩
  · obtain ⟨e, h1, h2⟩ := h.ok p v hv
    rw [entOf, h1]; exact h2
  · obtain ⟨e, h1, h2, _⟩ := hx.at ((h.ks p).1 hp')
    have hm := List.mem_of_getElem? h1
    rw [entOf, h1]
    exact ⟨hb e hm, hs e hm, by rw [← h2]; exact hp e hm⟩
theorem TI.abv {w : World} {es : List E1} {k : Nat} {T m : KV} (h : TI w es k T m) (p : ByteArray) : aboveG (fun k => (mget m k).isSome) p = abv T p := by
  have : (fun k => (mget m k).isSome) = (fun k => (mget T k).isSome) := funext fun q => by
    have := h.ks q
    cases e1 : mget m q with
    | none =>
      cases e2 : mget T q with
      | none => rfl
      | some v => exact absurd (this.1 (mget_some.1 ⟨v, e2⟩)) (mget_none.1 e1)
    | some v =>
      cases e2 : mget T q with
      | none => exact absurd (this.2 (mget_some.1 ⟨v, e1⟩)) (mget_none.1 e2)
      | some v => rfl
  rw [Lx.abv, this]
theorem TI.inT {w : World} {es : List E1} {k : Nat} {T m : KV} (h : TI w es k T m) (q : ByteArray) : (mget m q).isSome = (mget T q).isSome := by
  have := h.ks q
  cases e1 : mget m q with
  | none =>
    cases e2 : mget T q with
    | none => rfl
    | some v => exact absurd (this.1 (mget_some.1 ⟨v, e2⟩)) (mget_none.1 e1)
  | some v =>
    cases e2 : mget T q with
    | none => exact absurd (this.2 (mget_some.1 ⟨v, e1⟩)) (mget_none.1 e2)
    | some v => rfl
/-- The entry of its path: the last one. -/
def Rep (es : List E1) (m : KV) (j : Nat) (e : E1) : Prop := es[j]? = some e ∧ idxOf m e.path = j
theorem Rep.ent {es : List E1} {m : KV} {j : Nat} {e : E1} (h : Rep es m j e) : entOf es m e.path = e := by
  rw [entOf, h.2, h.1]; rfl
def seed0 (e : E1) : Bool := decide (e.kind = 0 ∨ e.kind = 4) || (decide (0 < e.xDS.length) || decide (0 < e.xKA.length))
theorem seedB_of {T Te : KV} {ent : ByteArray → E1} {p : ByteArray} {e : E1} (he : ent p = e) : seedB T Te ent p = (seed0 e || (match abv T p with | none => false | some d => teB Te d || !leqG e.xS (ent d).xS)) := by
  unfold seedB seed0
  rw [he]
  cases decide (e.kind = 0 ∨ e.kind = 4) <;> cases decide (0 < e.xDS.length) <;> cases decide (0 < e.xKA.length) <;> rfl
structure SInv (es : List E1) (C T Te m : KV) (i : Nat) (sd : List ByteArray) : Prop where
  mem : ∀ s, s ∈ sd ↔ s ∈ keys C ∨ ∃ j e, j < i ∧ Rep es m j e ∧ seedB T Te (entOf es m) e.path = true ∧ s = e.path
theorem SInv.skip {es : List E1} {C T Te m : KV} {i : Nat} {sd : List ByteArray} (h : SInv es C T Te m i sd) (hn : ∀ e, Rep es m i e → seedB T Te (entOf es m) e.path = false) : SInv es C T Te m (i + 1) sd := by
  refine ⟨fun s => ?_⟩
  rw [h.mem]
  constructor
  · rintro (h | ⟨j, e, h1, h2⟩)
    · exact .inl h
    · exact .inr ⟨j, e, by omega, h2⟩
  · rintro (h | ⟨j, e, h1, h2, h3, h4⟩)
    · exact .inl h
    · by_cases eq : j = i
      · subst eq; rw [hn e h2] at h3; cases h3
      · exact .inr ⟨j, e, by omega, h2, h3, h4⟩
theorem SInv.push {es : List E1} {C T Te m : KV} {i : Nat} {sd : List ByteArray} {e : E1} (h : SInv es C T Te m i sd) (hr : Rep es m i e) (hs : seedB T Te (entOf es m) e.path = true) : SInv es C T Te m (i + 1) (sd ++ [e.path]) := by
  refine ⟨fun s => ?_⟩
  rw [List.mem_append, List.mem_singleton, h.mem]
  constructor
  · rintro ((h | ⟨j, x, h1, h2⟩) | rfl)
    · exact .inl h
    · exact .inr ⟨j, x, by omega, h2⟩
    · exact .inr ⟨i, e, by omega, hr, hs, rfl⟩
  · rintro (h | ⟨j, x, h1, h2, h3, h4⟩)
    · exact .inl (.inl h)
    · by_cases eq : j = i
      · subst eq
        have := h2.1.symm.trans hr.1
        cases this
        exact .inr h4
      · exact .inl (.inr ⟨j, x, by omega, h2, h3, h4⟩)
theorem SInv.full {w : World} {es : List E1} {C T Te m : KV} {sd : List ByteArray} (h : SInv es C T Te m es.length sd) (hx : IX es es.length m) (ht : TI w es es.length T m) : ∀ s, s ∈ sd ↔ seedD T C Te (entOf es m) s := by
  intro s
  rw [h.mem]
  refine or_congr Iff.rfl ?_
  constructor
  · rintro ⟨j, e, h1, h2, h3, rfl⟩
    exact ⟨(ht.ks _).2 (hx.has j e h1 h2.1), h3⟩
  · rintro ⟨h1, h2⟩
    obtain ⟨e, he, hpe, hj, _⟩ := hx.at ((ht.ks s).1 h1)
    subst hpe
    exact ⟨idxOf m e.path, e, hj, ⟨he, rfl⟩, h2, rfl⟩
structure CntI (es : List E1) (m pm : KV) (i : Nat) (cs : List ByteArray) : Prop where
  nd : cs.Nodup
  mem : ∀ p, p ∈ cs ↔ p ∈ keys pm ∧ ∃ j e, j < i ∧ Rep es m j e ∧ p = e.path
  len : cs.length ≤ i
theorem CntI.init (es : List E1) (m pm : KV) : CntI es m pm 0 [] := ⟨.nil, fun p => ⟨fun h => by simp at h, fun ⟨_, j, e, h, _⟩ => by omega⟩, Nat.le_refl _⟩
theorem CntI.skip {es : List E1} {m pm : KV} {i : Nat} {cs : List ByteArray} (h : CntI es m pm i cs) (hn : ∀ e, Rep es m i e → e.path ∉ keys pm) : CntI es m pm (i + 1) cs := by
  refine ⟨h.nd, fun p => ?_, by have := h.len; omega⟩
  rw [h.mem]
  refine and_congr_right fun hp => ?_
  constructor
  · rintro ⟨j, e, h1, h2⟩; exact ⟨j, e, by omega, h2⟩
  · rintro ⟨j, e, h1, h2, h3⟩
    by_cases eq : j = i
    · subst eq; subst h3; exact absurd hp (hn e h2)
    · exact ⟨j, e, by omega, h2, h3⟩
theorem CntI.push {es : List E1} {m pm : KV} {i : Nat} {cs : List ByteArray} {e : E1} (h : CntI es m pm i cs) (hr : Rep es m i e) (hp : e.path ∈ keys pm) : CntI es m pm (i + 1) (cs ++ [e.path]) := by
  refine ⟨?_, fun p => ?_, by have := h.len; simp; omega⟩
  · rw [List.nodup_append]
    refine ⟨h.nd, by simp, fun a ha b hb eq => ?_⟩
    simp at hb; subst hb; subst eq
    obtain ⟨_, j, x, h1, h2, h3⟩ := (h.mem _).1 ha
    have e1 := h2.2
    rw [← h3, hr.2] at e1
    omega
  · rw [List.mem_append, List.mem_singleton, h.mem]
    constructor
    · rintro (⟨h1, j, x, h2, h3⟩ | rfl)
      · exact ⟨h1, j, x, by omega, h3⟩
      · exact ⟨hp, i, e, by omega, hr, rfl⟩
    · rintro ⟨h1, j, x, h2, h3, h4⟩
      by_cases eq : j = i
      · subst eq
        have := h3.1.symm.trans hr.1
        cases this
        exact .inr h4
      · exact .inl ⟨h1, j, x, by omega, h3, h4⟩
theorem CntI.full {w w' : World} {es : List E1} {T m pm : KV} {cs W : List ByteArray} (h : CntI es m pm es.length cs) (hx : IX es es.length m) (ht : TI w es es.length T m) (hp : POut w' T (entOf es m) W pm) (hn : (keys pm).Nodup) : pm.length = cs.length := by
  have : cs.Perm (keys pm) := perm_nodup h.nd hn (fun p => by
    rw [h.mem]
    refine ⟨fun h => h.1, fun hk => ⟨hk, ?_⟩⟩
    have hT : p ∈ keys T := Classical.byContradiction fun hc => mget_none.1 (hp.out p hc) hk
    obtain ⟨e, he, hpe, hj, _⟩ := hx.at ((ht.ks p).1 hT)
    subst hpe
    exact ⟨idxOf m e.path, e, hj, ⟨he, rfl⟩, rfl⟩)
  have := this.length_eq
  simpa [keys] using this.symm
theorem POut.keys {w : World} {T : KV} {ent : ByteArray → E1} {W : List ByteArray} {pm : KV} (h : POut w T ent W pm) {k : ByteArray} (hk : k ∈ keys T) : k ∈ Lx.keys pm ↔ k ∈ W ∨ ∃ d, abv T k = some d ∧ d ∈ W := by
  constructor
  · intro hp
    by_cases hW : k ∈ W
    · exact .inl hW
    · refine Classical.byContradiction fun hc => mget_none.1 (h.none k hk hW (fun d hd hdW => hc (.inr ⟨d, hd, hdW⟩))) hp
  · intro hor
    by_cases hW : k ∈ W
    · obtain ⟨u, hu, _⟩ := h.whole k hk hW
      exact mget_some.1 ⟨u, hu⟩
    · rcases hor with h' | ⟨d, hd, hdW⟩
      · exact absurd h' hW
      · obtain ⟨u, hu, _⟩ := h.part k hk hW d hd hdW
        exact mget_some.1 ⟨u, hu⟩
end Go.Lx
