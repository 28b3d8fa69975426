/-
  Maps keyed by strings, in the logic of the frame: what a map holds is a list of keys with values; looking up, storing, counting, ranging in whatever order. Over any program.
-/
import Derived.Test.Qxb6602828aMore
namespace Go.Lx
open Go.RowKit (Below)

abbrev KV := List (ByteArray × Value)
def ent (p : ByteArray × Value) (b : Nat) : MapEntry := { key := .string p.1, val := p.2, born := b }
def mget : KV → ByteArray → Option Value
  | [], _ => none
  | p :: r, k => if p.1 = k then some p.2 else mget r k
def mset : KV → ByteArray → Value → KV
  | [], k, v => [(k, v)]
  | p :: r, k, v => if p.1 = k then (k, v) :: r else p :: mset r k v
def keys (m : KV) : List ByteArray := m.map (·.1)

theorem mget_mset (m : KV) (k : ByteArray) (v : Value) (k' : ByteArray) : mget (mset m k v) k' = if k = k' then some v else mget m k' := by
  induction m with
  | nil => simp [mset, mget]
  | cons p r ih =>
    simp only [mset]
    by_cases h : p.1 = k
    · rw [if_pos h]
      by_cases h' : k = k'
      · simp [mget, h']
      · simp [mget, h', h]
    · rw [if_neg h]
      by_cases h' : p.1 = k'
      · have : ¬ k = k' := fun e => h (h'.trans e.symm)
        simp [mget, h', this]
      · simp [mget, h', ih]
theorem mget_mem {m : KV} {k : ByteArray} {v : Value} (h : mget m k = some v) : (k, v) ∈ m := by
  induction m with
  | nil => simp [mget] at h
  | cons p r ih =>
    simp only [mget] at h
    by_cases e : p.1 = k
    · rw [if_pos e] at h; cases h; subst e; exact List.mem_cons_self
    · rw [if_neg e] at h; exact List.mem_cons_of_mem _ (ih h)
theorem mget_none {m : KV} {k : ByteArray} : mget m k = none ↔ k ∉ keys m := by
  induction m with
  | nil => simp [mget, keys]
  | cons p r ih =>
    simp only [mget, keys, List.map_cons, List.mem_cons, not_or] at *
    by_cases e : p.1 = k
    · simp [e]
    · rw [if_neg e, ih]
      exact ⟨fun h => ⟨fun h' => e h'.symm, h⟩, fun h => h.2⟩
theorem mget_some {m : KV} {k : ByteArray} : (∃ v, mget m k = some v) ↔ k ∈ keys m := by
  have := @mget_none m k
  cases h : mget m k with
  | none => simp [this.1 h]
  | some v =>
    rw [h] at this
    refine ⟨fun _ => ?_, fun _ => ⟨v, rfl⟩⟩
    exact Classical.byContradiction fun hc => by have := this.2 hc; cases this
theorem keys_mset_in {m : KV} {k : ByteArray} (v : Value) (h : k ∈ keys m) : keys (mset m k v) = keys m := by
  induction m with
  | nil => simp [keys] at h
  | cons p r ih =>
    simp only [mset]
    by_cases e : p.1 = k
    · rw [if_pos e]; simp [keys, e]
    · rw [if_neg e]
      simp only [keys, List.map_cons, List.mem_cons] at h ih ⊢
      rw [ih (h.resolve_left fun h => e h.symm)]
theorem keys_mset_new {m : KV} {k : ByteArray} (v : Value) (h : k ∉ keys m) : keys (mset m k v) = keys m ++ [k] := by
  induction m with
  | nil => simp [mset, keys]
  | cons p r ih =>
    simp only [keys, List.map_cons, List.mem_cons, not_or] at h
    have e : ¬ p.1 = k := fun e => h.1 e.symm
    simp only [mset]
    rw [if_neg e]
    simp only [keys, List.map_cons] at ih ⊢
    rw [ih h.2]; rfl
theorem mem_keys_mset {m : KV} {k : ByteArray} (v : Value) (k' : ByteArray) : k' ∈ keys (mset m k v) ↔ k' = k ∨ k' ∈ keys m := by
  by_cases h : k ∈ keys m
  · rw [keys_mset_in v h]
    exact ⟨.inr, fun h' => h'.elim (fun e => e ▸ h) id⟩
  · rw [keys_mset_new v h]; simp [or_comm]
theorem mset_length_in {m : KV} {k : ByteArray} (v : Value) (h : k ∈ keys m) : (mset m k v).length = m.length := by
  have := congrArg List.length (keys_mset_in v h)
  simpa [keys] using this
theorem mset_length_new {m : KV} {k : ByteArray} (v : Value) (h : k ∉ keys m) : (mset m k v).length = m.length + 1 := by
  have := congrArg List.length (keys_mset_new v h)
  simpa [keys] using this
theorem mget_of_mem {m : KV} (hn : (keys m).Nodup) {k : ByteArray} {v : Value} (h : (k, v) ∈ m) : mget m k = some v := by
  induction m with
  | nil => simp at h
  | cons p r ih =>
    simp only [keys, List.map_cons, List.nodup_cons] at hn
    rcases List.mem_cons.1 h with rfl | h
    · simp [mget]
    · have : ¬ p.1 = k := fun e => hn.1 (by rw [e]; exact List.mem_map.2 ⟨(k, v), h, rfl⟩)
      rw [mget, if_neg this]; exact ih hn.2 h

/-- A map's object: its entries, each with its stamp. -/
structure MapAt (w : World) (r : Nat) (m : KV) (bs : List Nat) (clock : Nat) : Prop where
  at_ : w.heap[r]? = some (.map (List.zipWith ent m bs).toArray clock)
  len : bs.length = m.length
  nd : bs.Nodup
  lt : ∀ b ∈ bs, b < clock
  kd : (keys m).Nodup
def MapIs (w : World) (r : Nat) (m : KV) : Prop := ∃ bs clock, MapAt w r m bs clock
theorem MapAt.lt_size {w : World} {r : Nat} {m : KV} {bs : List Nat} {clock : Nat} (h : MapAt w r m bs clock) : r < w.heap.size := (Array.getElem?_eq_some_iff.1 h.at_).1
theorem MapIs.lt_size {w : World} {r : Nat} {m : KV} (h : MapIs w r m) : r < w.heap.size := let ⟨_, _, h⟩ := h; h.lt_size
theorem MapIs.kd {w : World} {r : Nat} {m : KV} (h : MapIs w r m) : (keys m).Nodup := let ⟨_, _, h⟩ := h; h.kd
theorem MapAt.of_block {w w' : World} {r : Nat} {m : KV} {bs : List Nat} {clock : Nat} (h : MapAt w r m bs clock) (e : w'.heap[r]? = w.heap[r]?) : MapAt w' r m bs clock := ⟨e.trans h.at_, h.len, h.nd, h.lt, h.kd⟩
theorem MapIs.of_block {w w' : World} {r : Nat} {m : KV} (h : MapIs w r m) (e : w'.heap[r]? = w.heap[r]?) : MapIs w' r m := let ⟨bs, c, h⟩ := h; ⟨bs, c, h.of_block e⟩
theorem MapIs.up {w w' : World} {r : Nat} {m : KV} (h : MapIs w r m) (hu : Up w w') : MapIs w' r m := h.of_block (hu.block h.lt_size)
theorem MapIs.kept {w w' : World} {r : Nat} {m : KV} {row : Option Nat} (h : MapIs w r m) (hg : w.grownBy w' row) (hne : row ≠ some r) : MapIs w' r m := h.of_block (hg.block r h.lt_size (fun e => hne e.symm))
/-- A map value: nil, or a map that is there. -/
def MapV (w : World) (v : Value) (m : KV) : Prop := (v = .map none ∧ m = []) ∨ ∃ r, v = .map (some r) ∧ MapIs w r m
theorem MapV.up {w w' : World} {v : Value} {m : KV} (h : MapV w v m) (hu : Up w w') : MapV w' v m := by
  rcases h with h | ⟨r, e, h⟩
  · exact .inl h
  · exact .inr ⟨r, e, h.up hu⟩

structure MapTy (P : Program) (t kt et : Nat) (z : Value) : Prop where
  und : P.underlying t = some (.map kt et)
  key : P.underlying kt = some .string
  zero : ∀ w, (zeroValue et).run P w = .ok z w
theorem MapTy.of {P : Program} {t kt et : Nat} {z : Value} (h : P.underlying t = some (.map kt et)) (hk : P.underlying kt = some .string) (hz : (P.info? et).map (·.zero) = some (some z)) : MapTy P t kt et z := by
  obtain ⟨i, hi, hz⟩ := Option.map_eq_some_iff.1 hz
  exact ⟨h, hk, fun w => by simp [zeroValue, typeInfo, hi, hz]⟩

theorem beq_ba (a b : ByteArray) : (a == b) = decide (a = b) := by
  have h : (a == b) = true ↔ a = b := by
    cases a; cases b
    show ByteArray.beq _ _ = true ↔ _
    simp [ByteArray.beq]
  rw [Bool.eq_iff_iff, h]; simp

def fidx : KV → ByteArray → Nat → Option (Nat × Value)
  | [], _, _ => none
  | p :: r, k, i => if p.1 = k then some (i, p.2) else fidx r k (i + 1)
theorem findNow_spec (k : ByteArray) : ∀ (m : KV) (bs : List Nat) (i : Nat), bs.length = m.length → Instr.findNow .string (.string k) (List.zipWith ent m bs) i = some (fidx m k i)
  | [], bs, i, _ => by simp [Instr.findNow, fidx]
  | p :: r, [], i, h => by simp at h
  | p :: r, b :: bs, i, h => by
    have ih := findNow_spec k r bs (i + 1) (by simpa using h)
    simp only [List.zipWith_cons_cons, Instr.findNow, ent, Instr.sameNow, beq_ba, fidx]
    by_cases e : p.1 = k
    · simp [e]
    · have e' : ¬ k = p.1 := fun h => e h.symm
      have ih' : Instr.findNow .string (.string k) (List.zipWith ent r bs) (i + 1) = some (fidx r k (i + 1)) := ih
      simp [e, e', ih']
theorem fidx_get (k : ByteArray) : ∀ (m : KV) (i : Nat), (fidx m k i).map (·.2) = mget m k
  | [], i => rfl
  | p :: r, i => by
    simp only [fidx, mget]
    by_cases e : p.1 = k
    · simp [e]
    · simp [e, fidx_get k r (i + 1)]
theorem fidx_set (k : ByteArray) (v : Value) : ∀ (m : KV) (i j : Nat) (u : Value), fidx m k i = some (j, u) → ∃ n, j = i + n ∧ n < m.length ∧ m[n]? = some (k, u) ∧ mset m k v = m.set n (k, v)
  | [], i, j, u, h => by simp [fidx] at h
  | p :: r, i, j, u, h => by
    simp only [fidx] at h
    by_cases e : p.1 = k
    · rw [if_pos e] at h
      cases h
      subst e
      exact ⟨0, rfl, by simp, by simp, by simp [mset]⟩
    · rw [if_neg e] at h
      obtain ⟨n, h1, h2, h3, h4⟩ := fidx_set k v r (i + 1) j u h
      refine ⟨n + 1, by omega, by simp; omega, by simpa using h3, ?_⟩
      simp [mset, e, h4]
theorem fidx_none (k : ByteArray) (v : Value) : ∀ (m : KV) (i : Nat), fidx m k i = none → mset m k v = m ++ [(k, v)] ∧ k ∉ keys m
  | [], i, _ => by simp [mset, keys]
  | p :: r, i, h => by
    simp only [fidx] at h
    by_cases e : p.1 = k
    · rw [if_pos e] at h; cases h
    · rw [if_neg e] at h
      obtain ⟨h1, h2⟩ := fidx_none k v r (i + 1) h
      refine ⟨by simp [mset, e, h1], ?_⟩
      simp only [keys, List.map_cons, List.mem_cons, not_or]
      exact ⟨fun h => e h.symm, h2⟩

section run
variable {P : Program} {w : World}
theorem run_checkKey_string {kt : TypeId} (hk : P.underlying kt = some .string) (e : Bool) (k : ByteArray) : (Instr.checkKey e 10000 kt (.string k)).run P w = .ok () w := by
  have h : ∀ dp, (Instr.checkKey e (dp + 1) kt (.string k)).run P w = .ok () w := fun dp => by simp [Instr.checkKey, run_underlying hk]
  exact h 9999
theorem run_getObj_map {r : Nat} {m : KV} {bs : List Nat} {clock : Nat} (h : MapAt w r m bs clock) : (getObj r).run P w = .ok (.map (List.zipWith ent m bs).toArray clock) w := by
  simp [getObj, Sem.run, h.at_]
theorem run_lookup {t kt et : Nat} {z : Value} (ht : MapTy P t kt et z) {v : Value} {m : KV} (hm : MapV w v m) (k : ByteArray) (ok : Bool) :
    (Instr.lookup t v (.string k) ok).run P w = .ok (if ok then .tuple #[(mget m k).getD z, .bool (mget m k).isSome] else (mget m k).getD z) w := by
  rcases hm with ⟨rfl, rfl⟩ | ⟨r, rfl, bs, clock, h⟩
  · simp [Instr.lookup, run_underlying ht.und, run_checkKey_string ht.key, Instr.findKey, run_underlying ht.key, Instr.findNow, ht.zero, mget]
  · have hf := findNow_spec k m bs 0 h.len
    have hg := fidx_get k m 0
    cases hx : fidx m k 0 with
    | none =>
      rw [hx] at hf hg
      simp only [Option.map_none] at hg
      simp [Instr.lookup, run_underlying ht.und, run_getObj_map h, run_checkKey_string ht.key, Instr.findKey, run_underlying ht.key, hf, ht.zero, ← hg]
    | some p =>
      rw [hx] at hf hg
      simp only [Option.map_some] at hg
      simp [Instr.lookup, run_underlying ht.und, run_getObj_map h, run_checkKey_string ht.key, Instr.findKey, run_underlying ht.key, hf, ← hg]

theorem run_setObj {r : Nat} {m : KV} {bs : List Nat} {clock : Nat} (h : MapAt w r m bs clock) (o : Obj) : (setObj r o).run P w = .ok () { w with heap := w.heap.setIfInBounds r o } := by
  simp [setObj, Sem.run, h.at_]
theorem sameBits_string (k : ByteArray) : Instr.sameBits 10000 (.string k) (.string k) = true := by
  have : (k == k) = true := by rw [beq_ba]; simp
  simp [Instr.sameBits, this]
theorem zip_set (k : ByteArray) (v u : Value) : ∀ (m : KV) (bs : List Nat) (n : Nat), bs.length = m.length → m[n]? = some (k, u) →
    (List.zipWith ent m bs).modify n (fun e => { e with key := .string k, val := v }) = List.zipWith ent (m.set n (k, v)) bs
  | [], bs, n, _, h => by simp at h
  | p :: r, [], n, h, _ => by simp at h
  | p :: r, b :: bs, 0, _, h => by simp [ent]
  | p :: r, b :: bs, n + 1, hl, h => by
    have ih := zip_set k v u r bs n (by simpa using hl) (by simpa using h)
    simp [ih]
theorem zip_get (k : ByteArray) (u : Value) : ∀ (m : KV) (bs : List Nat) (n : Nat), bs.length = m.length → m[n]? = some (k, u) → ((List.zipWith ent m bs)[n]?).map (·.key) = some (.string k)
  | [], bs, n, _, h => by simp at h
  | p :: r, [], n, h, _ => by simp at h
  | p :: r, b :: bs, 0, _, h => by simp at h; simp [ent, h]
  | p :: r, b :: bs, n + 1, hl, h => by
    have ih := zip_get k u r bs n (by simpa using hl) (by simpa using h)
    simpa using ih
theorem heap_set (w : World) (r : Nat) (o : Obj) (h : r < w.heap.size) : ({ w with heap := w.heap.setIfInBounds r o } : World).heap[r]? = some o := by
  simp [h]
theorem grown_set (w : World) (r : Nat) (o : Obj) : w.grownBy { w with heap := w.heap.setIfInBounds r o } (some r) :=
  ⟨rfl, rfl, rfl, by simp, fun k _ hk => by
    have : r ≠ k := fun e => hk (by rw [e])
    simp [Array.getElem?_setIfInBounds_ne this]⟩
theorem run_mapUpdate {t kt et : Nat} {z : Value} (ht : MapTy P t kt et z) {r : Nat} {m : KV} (hm : MapIs w r m) (k : ByteArray) (v : Value) :
    ∃ w', (Instr.mapUpdate t (.map (some r)) (.string k) v).run P w = .ok () w' ∧ MapIs w' r (mset m k v) ∧ w.grownBy w' (some r) ∧ w'.heap.size = w.heap.size := by
  obtain ⟨bs, clock, h⟩ := hm
  have hf := findNow_spec k m bs 0 h.len
  have hlt := h.lt_size
  cases hx : fidx m k 0 with
  | none =>
    rw [hx] at hf
    obtain ⟨h1, h2⟩ := fidx_none k v m 0 hx
    refine ⟨{ w with heap := w.heap.setIfInBounds r (.map ((List.zipWith ent m bs).toArray.push { key := .string k, val := v, born := clock }) (clock + 1)) }, ?_, ⟨bs ++ [clock], clock + 1, ?_⟩, grown_set w r _, by simp⟩
    · simp [Instr.mapUpdate, run_underlying ht.und, run_getObj_map h, run_checkKey_string ht.key, Instr.findKey, run_underlying ht.key, hf, run_setObj h]
    · refine ⟨?_, by simp [h1, h.len], ?_, ?_, ?_⟩
      · rw [heap_set w r _ hlt, h1, List.zipWith_append h.len.symm]
        simp [ent]
      · rw [List.nodup_append]
        refine ⟨h.nd, by simp, fun a ha b hb e => ?_⟩
        simp at hb
        have := h.lt a ha
        omega
      · intro b hb
        rcases List.mem_append.1 hb with hb | hb
        · have := h.lt b hb; omega
        · simp at hb; omega
      · rw [keys_mset_new v h2]
        rw [List.nodup_append]
        exact ⟨h.kd, by simp, fun a ha b hb e => by simp at hb; subst hb; subst e; exact h2 ha⟩
  | some p =>
    obtain ⟨j, u⟩ := p
    rw [hx] at hf
    obtain ⟨n, h1, h2, h3, h4⟩ := fidx_set k v m 0 j u hx
    have hjn : j = n := by omega
    subst hjn
    have hz := zip_get k u m bs j h.len h3
    refine ⟨{ w with heap := w.heap.setIfInBounds r (.map ((List.zipWith ent m bs).toArray.modify j (fun e => { e with key := .string k, val := v })) clock) }, ?_, ⟨bs, clock, ?_⟩, grown_set w r _, by simp⟩
    · obtain ⟨e0, he0, hek⟩ := Option.map_eq_some_iff.1 hz
      have hkey : ((List.zipWith ent m bs).toArray[j]?.map (·.key)).getD (.string k) = .string k := by simp [he0, hek]
      simp only [Instr.mapUpdate, Sem.run_bind, run_underlying ht.und, Result.andThen, run_getObj_map h, run_checkKey_string ht.key, Instr.findKey, run_underlying ht.key, hf, Sem.run_pure, hkey, Instr.keyThatStays, sameBits_string, if_true, run_setObj h]
    · refine ⟨?_, by simp [h4, h.len], h.nd, h.lt, ?_⟩
      · rw [heap_set w r _ hlt, h4, ← zip_set k v u m bs j h.len h3]
        simp
      · rw [keys_mset_in v (List.mem_map.2 ⟨_, List.mem_of_getElem? h3, rfl⟩)]
        exact h.kd
end run

section effects
variable {P : Program} {ops : Array Oper} {Q : Exit → Act → World → Prop} {S : World → Prop} {r : List (Oper × Bool)} {b : Bool} {n : Nat} {env : Env} {w : World}
variable {d : Nat} {ty : TypeId} {pos : String} {aft : Array Edge}

theorem mapIs_new (w : World) : MapIs (w.alloc (.map #[] 0)) w.heap.size [] := ⟨[], 0, heap_alloc_new w _, rfl, .nil, by simp, by simp [keys]⟩
theorem WL.makeMap0 {t : TypeId} (hd : Nat.blt d n = true)
    (k : ∀ w1, w.grownBy w1 none → w1.heap.size = w.heap.size + 1 → MapIs w1 w.heap.size [] → S w1 ∧ WL P ops Q S r n ((d, .map (some w.heap.size)) :: env) w1) :
    WL P ops Q S (({ dst := some d, op := .makeMap t none, type := ty, pos := pos, after := aft, guard := none }, false) :: r) n env w := by
  refine WL.eff rfl hd (fun v w1 => v = .map (some w.heap.size) ∧ w1 = w.alloc (.map #[] 0)) (fun ρ _ => ⟨_, _, ?_, rfl, rfl⟩) ?_
  · simp [execOp, Instr.makeMap]
  · rintro v w1 ⟨rfl, rfl⟩
    exact k _ (World.grownBy_alloc w _ none) (by simp) (mapIs_new w)
theorem WL.makeMapN {t kt et : TypeId} {z : Value} {x : Operand} {kd : IntKind} {i : Int} (ht : MapTy P t kt et z) (hx : ev env x = some (.int kd i)) (hd : Nat.blt d n = true)
    (k : ∀ w1, w.grownBy w1 none → w1.heap.size = w.heap.size + 1 → MapIs w1 w.heap.size [] → S w1 ∧ WL P ops Q S r n ((d, .map (some w.heap.size)) :: env) w1) :
    WL P ops Q S (({ dst := some d, op := .makeMap t (some x), type := ty, pos := pos, after := aft, guard := none }, false) :: r) n env w := by
  refine WL.eff rfl hd (fun v w1 => v = .map (some w.heap.size) ∧ w1 = w.alloc (.map #[] 0)) (fun ρ hρ => ⟨_, _, ?_, rfl, rfl⟩) ?_
  · simp [execOp, Instr.makeMap, hρ x _ hx, run_underlying ht.und, asInt, asIntOf]
  · rintro v w1 ⟨rfl, rfl⟩
    exact k _ (World.grownBy_alloc w _ none) (by simp) (mapIs_new w)
/-- 'm[k]', in every world of the class. -/
theorem WL.lookC {t kt et : TypeId} {z v : Value} {x y : Operand} {m : KV} {s : ByteArray} (ht : MapTy P t kt et z) (hx : ev env x = some v) (hy : ev env y = some (.string s)) (hm : ∀ w', Cls b S w w' → MapV w' v m) (hd : Nat.blt d n = true)
    (k : WL P ops Q S r n ((d, (mget m s).getD z) :: env) w) :
    WL P ops Q S (({ dst := some d, op := .lookup t x y false, type := ty, pos := pos, after := aft, guard := none }, b) :: r) n env w :=
  WL.read rfl hd (v := (mget m s).getD z) (fun w' hw' ρ hρ => by simp [execOp, hρ x _ hx, hρ y _ hy, run_lookup ht (hm w' hw') s false]) k
theorem WL.lookC2 {t kt et : TypeId} {z v : Value} {x y : Operand} {m : KV} {s : ByteArray} (ht : MapTy P t kt et z) (hx : ev env x = some v) (hy : ev env y = some (.string s)) (hm : ∀ w', Cls b S w w' → MapV w' v m) (hd : Nat.blt d n = true)
    (k : WL P ops Q S r n ((d, .tuple #[(mget m s).getD z, .bool (mget m s).isSome]) :: env) w) :
    WL P ops Q S (({ dst := some d, op := .lookup t x y true, type := ty, pos := pos, after := aft, guard := none }, b) :: r) n env w :=
  WL.read rfl hd (v := .tuple #[(mget m s).getD z, .bool (mget m s).isSome]) (fun w' hw' ρ hρ => by simp [execOp, hρ x _ hx, hρ y _ hy, run_lookup ht (hm w' hw') s true]) k
theorem WL.look1 {t kt et : TypeId} {z v : Value} {x y : Operand} {m : KV} {s : ByteArray} (ht : MapTy P t kt et z) (hx : ev env x = some v) (hy : ev env y = some (.string s)) (hE : ∀ w', Cls b S w w' → w' = w) (hm : MapV w v m) (hd : Nat.blt d n = true)
    (k : WL P ops Q S r n ((d, (mget m s).getD z) :: env) w) :
    WL P ops Q S (({ dst := some d, op := .lookup t x y false, type := ty, pos := pos, after := aft, guard := none }, b) :: r) n env w :=
  WL.lookC ht hx hy (fun w' hw' => by rw [hE w' hw']; exact hm) hd k
theorem WL.look2 {t kt et : TypeId} {z v : Value} {x y : Operand} {m : KV} {s : ByteArray} (ht : MapTy P t kt et z) (hx : ev env x = some v) (hy : ev env y = some (.string s)) (hE : ∀ w', Cls b S w w' → w' = w) (hm : MapV w v m) (hd : Nat.blt d n = true)
    (k : WL P ops Q S r n ((d, .tuple #[(mget m s).getD z, .bool (mget m s).isSome]) :: env) w) :
    WL P ops Q S (({ dst := some d, op := .lookup t x y true, type := ty, pos := pos, after := aft, guard := none }, b) :: r) n env w :=
  WL.lookC2 ht hx hy (fun w' hw' => by rw [hE w' hw']; exact hm) hd k
/-- 'm[k] = v'. -/
theorem WL.mapSet {t kt et : TypeId} {z v : Value} {x y u : Operand} {g : Nat} {m : KV} {s : ByteArray} (ht : MapTy P t kt et z) (hx : ev env x = some (.map (some g))) (hy : ev env y = some (.string s)) (hu : ev env u = some v) (hm : MapIs w g m)
    (k : ∀ w1, w.grownBy w1 (some g) → w1.heap.size = w.heap.size → MapIs w1 g (mset m s v) → S w1 ∧ WL P ops Q S r n env w1) :
    WL P ops Q S (({ dst := none, op := .mapUpdate t x y u, type := ty, pos := pos, after := aft, guard := none }, false) :: r) n env w := by
  obtain ⟨w', hrun, h1, h2, h3⟩ := run_mapUpdate ht hm s v
  refine WL.eff0 rfl rfl (fun w1 => w1 = w') (fun ρ hρ => ⟨_, ?_, rfl⟩) ?_
  · simp [execOp, hρ x _ hx, hρ y _ hy, hρ u _ hu, hrun]
  · rintro w1 rfl
    exact k _ h2 h3 h1
theorem WL.lenMap {t kt et : TypeId} {z : Value} {x : Operand} {v : Value} {m : KV} (ht : MapTy P t kt et z) (hx : ev env x = some v) (hE : ∀ w', Cls b S w w' → w' = w) (hm : MapV w v m) (hd : Nat.blt d n = true) (k : WL P ops Q S r n ((d, .int .i64 (m.length : Int)) :: env) w) :
    WL P ops Q S (({ dst := some d, op := .call { callee := .builtin .len, args := #[x], argTypes := #[t] }, type := ty, pos := pos, after := aft, guard := none }, b) :: r) n env w :=
  WL.read rfl hd (v := .int .i64 (m.length : Int)) (fun w' hw' ρ hρ => by
    rw [hE w' hw']
    rcases hm with ⟨rfl, rfl⟩ | ⟨r, rfl, bs, clock, h⟩
    · simp [execOp, resolve, invoke, builtin, hρ x _ hx, Builtin.len_, run_underlying ht.und, goInt]
    · simp [execOp, resolve, invoke, builtin, hρ x _ hx, Builtin.len_, run_underlying ht.und, goInt, run_getObj_map h, h.len]) k
theorem run_eq_nilM {t kt et : TypeId} (ht : P.underlying t = some (.map kt et)) (a : Option Nat) (w : World) : (Op.equal t (.map a) (.map none)).run P w = .ok a.isNone w := by
  have h : ∀ dp, (Op.equalIn (dp + 1) t (.map a) (.map none)).run P w = .ok a.isNone w := fun dp => by
    cases a <;> simp [Op.equalIn, run_underlying ht]
  exact h 9999
theorem WL.eqNilM {t t' kt et : TypeId} {z : Value} {x : Operand} {a : Option Nat} (ht : MapTy P t kt et z) (hx : ev env x = some (.map a)) (hd : Nat.blt d n = true) (k : WL P ops Q S r n ((d, .bool a.isNone) :: env) w) :
    WL P ops Q S (({ dst := some d, op := .binOp .eql t x (.const (.map none)) t', type := ty, pos := pos, after := aft, guard := none }, b) :: r) n env w :=
  WL.pure rfl hd (v := .bool a.isNone) (fun w' ρ hρ => by simp [execOp, hρ x _ hx, hρ (.const (.map none)) _ rfl, eqGuard, binOp, run_eq_nilM ht.und]) k

/-! ### Ranging -/
/-- An iterator over a map: 'rem' is still to come; 'cur': what came last. -/
structure IterAt (w : World) (it : Nat) (g : Nat) (m : KV) (rem : KV) (cur : Option (ByteArray × Value)) : Prop where
  ex : ∃ bs clock seen, MapAt w g m bs clock ∧ w.heap[it]? = some (.mapIter (some g) clock seen clock) ∧
    rem = ((m.zip bs).filter fun p => !seen.contains p.2).map (·.1) ∧ (∀ c, cur = some c → ∃ bc, (c, bc) ∈ m.zip bs ∧ seen.back? = some bc)
/-- An iterator: over nil there is nothing to come. -/
def Iter (w : World) (it : Nat) (v : Value) (m : KV) (rem : KV) (cur : Option (ByteArray × Value)) : Prop :=
  (v = .map none ∧ m = [] ∧ rem = [] ∧ cur = none ∧ w.heap[it]? = some (.mapIter none 0 #[] 0)) ∨ ∃ g, v = .map (some g) ∧ IterAt w it g m rem cur
theorem Iter.of_blocks {w w' : World} {it : Nat} {v : Value} {m rem : KV} {cur : Option (ByteArray × Value)} (h : Iter w it v m rem cur) (h1 : w'.heap[it]? = w.heap[it]?) (h2 : ∀ g, v = .map (some g) → w'.heap[g]? = w.heap[g]?) : Iter w' it v m rem cur := by
  rcases h with ⟨e1, e2, e3, e4, e5⟩ | ⟨g, e, bs, clock, seen, hm, hi, hr, hc⟩
  · exact .inl ⟨e1, e2, e3, e4, h1.trans e5⟩
  · exact .inr ⟨g, e, bs, clock, seen, hm.of_block (h2 g e), h1.trans hi, hr, hc⟩
theorem Iter.map {w : World} {it : Nat} {v : Value} {m rem : KV} {cur : Option (ByteArray × Value)} (h : Iter w it v m rem cur) : MapV w v m := by
  rcases h with ⟨e1, e2, _, _, _⟩ | ⟨g, e, bs, clock, seen, hm, _⟩
  · exact .inl ⟨e1, e2⟩
  · exact .inr ⟨g, e, bs, clock, hm⟩
theorem Iter.it_lt {w : World} {it : Nat} {v : Value} {m rem : KV} {cur : Option (ByteArray × Value)} (h : Iter w it v m rem cur) : it < w.heap.size := by
  rcases h with ⟨_, _, _, _, e⟩ | ⟨g, e, bs, clock, seen, hm, hi, _⟩
  · exact (Array.getElem?_eq_some_iff.1 e).1
  · exact (Array.getElem?_eq_some_iff.1 hi).1

theorem WL.range {t kt et : TypeId} {z v : Value} {x : Operand} {m : KV} (ht : MapTy P t kt et z) (hx : ev env x = some v) (hm : MapV w v m) (hd : Nat.blt d n = true)
    (k : ∀ w1, w.grownBy w1 none → w1.heap.size = w.heap.size + 1 → Iter w1 w.heap.size v m m none → S w1 ∧ WL P ops Q S r n ((d, .pointer (some ⟨w.heap.size, 0, none⟩)) :: env) w1) :
    WL P ops Q S (({ dst := some d, op := .range t x, type := ty, pos := pos, after := aft, guard := none }, false) :: r) n env w := by
  rcases hm with ⟨rfl, rfl⟩ | ⟨g, rfl, bs, clock, h⟩
  · refine WL.eff rfl hd (fun v w1 => v = .pointer (some ⟨w.heap.size, 0, none⟩) ∧ w1 = w.alloc (.mapIter none 0 #[] 0)) (fun ρ hρ => ⟨_, _, ?_, rfl, rfl⟩) ?_
    · simp [execOp, Instr.range, hρ x _ hx, run_underlying ht.und]
    · rintro v w1 ⟨rfl, rfl⟩
      exact k _ (World.grownBy_alloc w _ none) (by simp) (.inl ⟨rfl, rfl, rfl, rfl, heap_alloc_new w _⟩)
  · refine WL.eff rfl hd (fun v w1 => v = .pointer (some ⟨w.heap.size, 0, none⟩) ∧ w1 = w.alloc (.mapIter (some g) clock #[] clock)) (fun ρ hρ => ⟨_, _, ?_, rfl, rfl⟩) ?_
    · simp [execOp, Instr.range, hρ x _ hx, run_underlying ht.und, run_getObj_map h]
    · rintro v w1 ⟨rfl, rfl⟩
      refine k _ (World.grownBy_alloc w _ none) (by simp) (.inr ⟨g, rfl, bs, clock, #[], h.of_block (Up.block (Up.grown (World.grownBy_alloc w _ none)) h.lt_size), heap_alloc_new w _, ?_, by simp⟩)
      have : (m.zip bs).filter (fun p => !(#[] : Array Nat).contains p.2) = m.zip bs := List.filter_eq_self.2 (by simp)
      rw [this]
      have h2 : (m.zip bs).map (·.1) = m := List.map_fst_zip (by rw [h.len]; exact Nat.le_refl _)
      exact h2.symm
end effects
end Go.Lx
