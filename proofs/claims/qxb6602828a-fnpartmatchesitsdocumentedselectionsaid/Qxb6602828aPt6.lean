import Derived.Test.Qxb6602828aPt5
namespace Go.Lx
open Go.Proofs Go.RowKit

/-! ### The tree, and what Part gives back -/
structure TM (w : World) (T : KV) (ent : ByteArray → E1) : Prop where
  ok : ∀ k v, mget T k = some v → EntIs w v (ent k)
  bd : ∀ k, k ∈ keys T → (ent k).bnd 1048576 ∧ Srt (ent k).xS ∧ k.size ≤ 4096
theorem TM.up {w w' : World} {T : KV} {ent : ByteArray → E1} (h : TM w T ent) (hu : Up w w') : TM w' T ent := ⟨fun k v hv => (h.ok k v hv).up hu, h.bd⟩
theorem TM.ents {w : World} {T : KV} {ent : ByteArray → E1} (h : TM w T ent) : EntsOk T := fun k v hv => (h.ok k v hv).ok
def zS : Stm := ⟨⟨#[]⟩, 0, 0, ⟨#[]⟩⟩
def bareE (e : E1) : E1 := { path := e.path, kind := 1, vC := .slice none 0 0, vM := e.vM, vS := .slice none 0 0, vD := .slice none 0 0, vDS := .slice none 0 0, vAb := .slice none 0 0, vR := .slice none 0 0, vKA := .slice none 0 0, xC := [], xM := e.xM, xS := [], xD := [], xDS := [], xAb := [], xR := [], xKA := [], sa := zS, sb := zS, sc := zS }
theorem bare_is {w : World} {t : Value} {e : E1} (h : ElsV w t e.xM) (hn : isNilV t = isNilV e.vM) : EntIs w (.agg (TE.cells ⟨.slice none 0 0, t, .slice none 0 0, .slice none 0 0, .slice none 0 0, .slice none 0 0, .slice none 0 0, .slice none 0 0⟩ (bareE e)).toArray) (bareE e) := by
  have hz : ElsV w (.slice none 0 0) [] ∧ isNilV (.slice none 0 0) = isNilV (.slice none 0 0) := ⟨⟨none, 0, rfl, ⟨fun h => absurd rfl h⟩, Nat.le_refl _⟩, rfl⟩
  exact ⟨_, rfl, hz, ⟨h, hn⟩, hz, hz, hz, hz, hz, hz⟩
theorem build68b (e : E1) (a : Option Addr) (l c : Nat) (w : World) : (Instr.build 68 #[(0, .int .u8 1), (2, .slice a l c)]).run Try.prog w = .ok (.agg (TE.cells ⟨.slice none 0 0, .slice a l c, .slice none 0 0, .slice none 0 0, .slice none 0 0, .slice none 0 0, .slice none 0 0, .slice none 0 0⟩ (bareE e)).toArray) w := by kernel_rfl
def teB (Te : KV) (d : ByteArray) : Bool := match mget Te d with
  | some (.bool b) => b
  | _ => false
theorem teB_get {Te : KV} (h : BoolM Te) (d : ByteArray) : (mget Te d).getD (.bool false) = .bool (teB Te d) := by
  unfold teB
  cases e : mget Te d with
  | none => rfl
  | some v => obtain ⟨b, rfl⟩ := h d v e; rfl
def abv (T : KV) (p : ByteArray) : Option ByteArray := aboveG (fun k => (mget T k).isSome) p
def seedB (T Te : KV) (ent : ByteArray → E1) (p : ByteArray) : Bool :=
  decide ((ent p).kind = 0 ∨ (ent p).kind = 4) || (decide (0 < (ent p).xDS.length) || (decide (0 < (ent p).xKA.length) || (match abv T p with
    | none => false
    | some d => teB Te d || !leqG (ent p).xS (ent d).xS)))
def partE (ent : ByteArray → E1) (k : ByteArray) : E1 := if (ent k).kind = 1 ∨ (ent k).kind = 2 then ent k else bareE (ent k)
theorem abv_mem {T : KV} {p d : ByteArray} (h : abv T p = some d) : d ∈ keys T ∧ d.size ≤ p.size := by
  obtain ⟨h1, k, hk⟩ := aboveG_mem p.size p d (Nat.le_refl _) h
  refine ⟨?_, by rw [← hk]; exact pIter_size _ _⟩
  obtain ⟨v, hv⟩ := Option.isSome_iff_exists.1 h1
  exact mget_some.1 ⟨v, hv⟩
theorem KRel.grown {r : Nat} {w w' : World} (h : KRel r w w') : w.grownBy w' (some r) := ⟨h.os, h.tape, h.output, h.size, fun k hk hne => h.block k hk (fun e => hne (by rw [e]))⟩

def cells88 (rs : List (ByteArray × ByteArray)) : List Value := rs.flatMap fun x => [.string x.1, .string x.2]
theorem cells88_snoc (rs : List (ByteArray × ByteArray)) (x : ByteArray × ByteArray) : cells88 (rs ++ [x]) = cells88 rs ++ [.string x.1, .string x.2] := by simp [cells88]
theorem cells88_get : ∀ (rs : List (ByteArray × ByteArray)) (i : Nat) (x : ByteArray × ByteArray), rs[i]? = some x → (cells88 rs)[i * 2]? = some (.string x.1) ∧ (cells88 rs)[i * 2 + 1]? = some (.string x.2)
  | [], i, x, h => by simp at h
  | y :: rs, 0, x, h => by
    simp at h; subst h; exact ⟨rfl, rfl⟩
  | y :: rs, i + 1, x, h => by
    have := cells88_get rs i x (by simpa using h)
    have e1 : (i + 1) * 2 = i * 2 + 2 := by omega
    rw [e1]
    exact this
theorem make84 : MakeTy Try.prog 84 88 2 32 [.string ⟨#[]⟩, .string ⟨#[]⟩] := MakeTy.of (z := .agg #[.string ⟨#[]⟩, .string ⟨#[]⟩]) (by kernel_rfl) (by kernel_rfl) (by kernel_rfl) rfl rfl (by omega)
theorem build88 (s u : ByteArray) (w : World) : (Instr.build 88 #[(0, .string s), (1, .string u)]).run Try.prog w = .ok (.agg #[.string s, .string u]) w := by kernel_rfl
theorem zero88 : ZeroTy Try.prog 88 [.string ⟨#[]⟩, .string ⟨#[]⟩] := ZeroTy.of (z := .agg #[.string ⟨#[]⟩, .string ⟨#[]⟩]) (by kernel_rfl) rfl
theorem own88_snoc {w : World} {B : Nat} {v : Value} {rs : List (ByteArray × ByteArray)} {x : ByteArray × ByteArray} (h : w.ownsRow B 88 2 v (rs.length + 1) (cells88 rs ++ [.string x.1, .string x.2])) : w.ownsRow B 88 2 v (rs ++ [x]).length (cells88 (rs ++ [x])) := by
  rw [cells88_snoc, List.length_append]; exact h
/-- The slice of what is beneath, as it reads. -/
theorem own88_get {w : World} {B : Nat} {v : Value} {rs : List (ByteArray × ByteArray)} (h : w.ownsRow B 88 2 v rs.length (cells88 rs)) : ∃ a c, v = .slice a rs.length c ∧ ∀ i, (hi : i < rs.length) → ∃ g, a = some ⟨g, 0, none⟩ ∧ w.cell? ⟨g, i * 2, none⟩ = some (.string rs[i].1) ∧ w.cell? ⟨g, i * 2 + 1, none⟩ = some (.string rs[i].2) := by
  obtain ⟨hl, h2⟩ := h
  rcases h2 with ⟨rfl, h0⟩ | ⟨g, cap, cur, rfl, hb, hg, hn, hm, hs, ht⟩
  · have : rs = [] := List.eq_nil_of_length_eq_zero h0
    subst this
    exact ⟨none, 0, rfl, fun i hi => by simp at hi⟩
  · refine ⟨some ⟨g, 0, none⟩, cap, rfl, fun i hi => ⟨g, rfl, ?_⟩⟩
    obtain ⟨h1, h2⟩ := cells88_get rs i _ (List.getElem?_eq_getElem hi)
    rw [← ht] at h1 h2
    rw [List.getElem?_take_of_lt (by omega)] at h1 h2
    have hrow : Row w g cur.toList 88 := by simpa [Row] using hg
    exact ⟨by simpa using hrow.cell h1, by simpa using hrow.cell h2⟩
structure RI (T Te : KV) (ent : ByteArray → E1) (rem : KV) (rs : List (ByteArray × ByteArray)) : Prop where
  mem : ∀ p d, (p, d) ∈ rs ↔ p ∈ keys T ∧ p ∉ keys rem ∧ seedB T Te ent p = false ∧ abv T p = some d

section
variable {P : Program} {ops : Array Oper} {Q : Exit → Act → World → Prop} {S : World → Prop} {r : List (Oper × Bool)} {b : Bool} {n : Nat} {env : Env} {w : World}
variable {d : Nat} {ty : TypeId} {pos : String} {aft : Array Edge}
theorem run_field683 (t : TE) (e : E1) (w : World) : (Instr.field 68 (.agg (t.cells e).toArray) 3).run Try.prog w = .ok t.S w := by kernel_rfl
theorem WL.field683 {x : Operand} {t : TE} {e : E1} (hx : ev env x = some (.agg (t.cells e).toArray)) (hd : Nat.blt d n = true) (k : WL Try.prog ops Q S r n ((d, t.S) :: env) w) :
    WL Try.prog ops Q S (({ dst := some d, op := .field 68 x 3, type := ty, pos := pos, after := aft, guard := none }, b) :: r) n env w :=
  WL.pure rfl hd (v := t.S) (fun w' ρ hρ => by simp [execOp, hρ x _ hx, run_field683]) k
/-- Two results: a slot, and a variable in memory. -/
theorem Post.retTC {fn : Func} {R : Ending → World → Prop} {t u tt bk : Nat} {v v' : Value} (hr : fn.results = #[.tmp t, .cell u tt]) (ht : PlainTy P tt) (hv : look env t = some v) (hu : look env u = some (.pointer (some ⟨bk, 0, none⟩))) (hc : w.cell? ⟨bk, 0, none⟩ = some v') (h : R (.returned (.tuple #[v, v'])) w) : Post (bodyPost P fn R) .ret n env w := by
  refine ⟨fun a ha => bodyPost_ret ?_ ha.defers h⟩
  have h1 := ha.fits t _ hv
  have h2 := ha.fits u _ hu
  simp [results, hr, h1, h2, asAddr, loadVar, ht.agg, hc]
end
theorem mapne {w : World} {v : Value} {m : KV} {r : Nat} (h : MapV w v m) (hr : w.heap.size ≤ r) : v ≠ .map (some r) := by
  intro e
  rcases h with ⟨e', _⟩ | ⟨g, e', h⟩
  · rw [e'] at e; cases e
  · rw [e'] at e; cases e; have := h.lt_size; omega
structure POut (w : World) (T : KV) (ent : ByteArray → E1) (W : List ByteArray) (pm : KV) : Prop where
  out : ∀ k, k ∉ keys T → mget pm k = none
  whole : ∀ k, k ∈ keys T → k ∈ W → ∃ u, mget pm k = some u ∧ EntIs w u (ent k)
  part : ∀ k, k ∈ keys T → k ∉ W → ∀ d, abv T k = some d → d ∈ W → ∃ u, mget pm k = some u ∧ EntIs w u (partE ent k)
  none : ∀ k, k ∈ keys T → k ∉ W → (∀ d, abv T k = some d → d ∉ W) → mget pm k = none
def seedD (T C Te : KV) (ent : ByteArray → E1) (k : ByteArray) : Prop := k ∈ keys C ∨ (k ∈ keys T ∧ seedB T Te ent k = true)
end Go.Lx
