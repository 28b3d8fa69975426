import Derived.Test.Qxb6603068aRows
import Derived.Test.Qxb6603068aS4
import Derived.ProofKit
import Derived.OpenShut
import Derived.ShutString
import Derived.ChangeOld
import Derived.Deep.Slices
namespace Go.Proofs.Qxb6603068a
open Go.ChangeShapes Go.WideShapes Go.ChangeAt Go.RowKit Go.Lx

theorem own : ownKnob Try.prog.godebug = none := by kernel_rfl
theorem laidOut : laidOutB Try.prog = true := by kernel_rfl
theorem spot_none {w : World} {a : Addr} {v : Value} (h : w.cell? a = some v) : a.spot = none := World.cell?_spot h

/-- A slice of numbers that came in, as the walks read it. -/
theorem open_ints {H : Type} {enc : TypeId × Value → H} {W : World} {fuel : Nat} {a : Option Addr} {len cap : Nat} {x : DataW H × List MemPlace} {t e : TypeId} {k : IntKind}
    (ht : Try.prog.underlying t = some (.slice e)) (he : Try.prog.underlying e = some (.int k)) (hc : Try.prog.cellsOf e = 1)
    (h : DataW.trod enc Try.prog W 0 (fun _ => true) true fuel t [.slice a len cap] = some x) : ∃ xs : List Int, IntsV k W (.slice a len cap) xs ∧ xs.length ≤ 9223372036854775807 ∧ ∀ x ∈ xs, (Lit.int k x).wf = true := by
  rcases Deep.open_slice1 ht hc h with ⟨hcs, _⟩ | ⟨ad, l, c, m, n, V0, D0, P0, hcs, _, hl, hm, hmm, _, hx⟩
  · cases hcs
    exact ⟨[], ⟨none, 0, rfl, ⟨fun h => absurd rfl h⟩, Nat.le_refl _⟩, by simp, fun x hx => by simp at hx⟩
  · cases hcs
    simp only [if_true] at hmm
    subst hmm
    have hv : ∀ i, i < len → ∃ e : Int, V0 i = .int k e ∧ (Lit.int k e).wf = true := by
      intro i hi
      obtain ⟨_, h0⟩ := hx i (by omega)
      obtain ⟨s, e0, _, hw⟩ := DataW.trod_int he h0
      simp only [List.cons.injEq, and_true] at e0
      exact ⟨s, e0, hw⟩
    obtain ⟨f, hf⟩ := Deep.choose_lt (α := Int) hv
    refine ⟨(List.range len).map f, ⟨some ad, m, by simp, ⟨fun hne => ?_⟩, by simpa using hl⟩, ?_, ?_⟩
    · have hpos : 0 < len := by
        rcases Nat.eq_zero_or_pos len with e | e
        · subst e; simp at hne
        · exact e
      obtain ⟨bk, o, sp⟩ := ad
      obtain ⟨hc0, _⟩ := hx 0 (by omega)
      have hsp : sp = none := by simpa [Addr.add] using spot_none hc0
      subst hsp
      refine ⟨bk, o, rfl, fun i e he => ?_⟩
      have hi : i < len := by
        have := (List.getElem?_eq_some_iff.1 he).1
        simpa using this
      have hfe : f i = e := by simpa [hi] using he
      obtain ⟨h0, _⟩ := hx i (by omega)
      have e0 := (hf i hi).1
      rw [add_none, e0] at h0
      rw [← hfe]
      exact h0
    · simp only [List.length_map, List.length_range]
      simp only [maxLen] at hm
      omega
    · intro e he
      obtain ⟨i, hi, rfl⟩ := List.mem_map.1 he
      exact (hf i (by simpa using hi)).2
theorem wf_u8 {n : Int} (h : (Lit.int .u8 n).wf = true) : 0 ≤ n ∧ n < 256 := by
  simp [Lit.wf, IntKind.min, IntKind.max, IntKind.signed, IntKind.bits] at h
  omega
theorem wf_u16 {n : Int} (h : (Lit.int .u16 n).wf = true) : 0 ≤ n ∧ n < 65536 := by
  simp [Lit.wf, IntKind.min, IntKind.max, IntKind.signed, IntKind.bits] at h
  omega
theorem wf_u64 {n : Int} (h : (Lit.int .u64 n).wf = true) : 0 ≤ n ∧ n < 18446744073709551616 := by
  simp [Lit.wf, IntKind.min, IntKind.max, IntKind.signed, IntKind.bits] at h
  omega
theorem wf_i64 {n : Int} (h : (Lit.int .i64 n).wf = true) : -9223372036854775808 ≤ n ∧ n ≤ 9223372036854775807 := by
  simp [Lit.wf, IntKind.min, IntKind.max, IntKind.signed, IntKind.bits] at h
  omega
/-- The row of bytes of an array. -/
theorem open_bytes {H : Type} {enc : TypeId × Value → H} {W : World} {fuel n : Nat} {t : TypeId} {cs : List Value} {x : DataW H × List MemPlace} (ht : Try.prog.underlying t = some (.array n 5)) (hn : Try.prog.cellsOf t = n)
    (h : DataW.trod enc Try.prog W 0 (fun _ => true) true fuel t cs = some x) : cs.length = n ∧ ∃ f : Nat → Int, ∀ i, i < n → cs[i]? = some (.int .u8 (f i)) ∧ 0 ≤ f i ∧ f i < 256 := by
  obtain ⟨xs, m, _, _, hlen, hl, hel⟩ := DataW.trod_array ht h
  rw [hn] at hlen
  refine ⟨hlen, ?_⟩
  have c5 : Try.prog.cellsOf 5 = 1 := by kernel_rfl
  have hv : ∀ i, i < n → ∃ e : Int, cs[i]? = some (.int .u8 e) ∧ 0 ≤ e ∧ e < 256 := by
    intro i hi
    have h0 := hel i hi
    rw [List.getElem?_eq_getElem (by omega), c5, Nat.mul_one, List.drop_eq_getElem_cons (by omega)] at h0
    simp only [List.take_succ_cons, List.take_zero] at h0
    obtain ⟨s, e0, _, hw⟩ := DataW.trod_int Try.underlying5 h0
    simp only [List.cons.injEq, and_true] at e0
    exact ⟨s, by rw [List.getElem?_eq_getElem (by omega), e0], wf_u8 hw⟩
  exact Deep.choose_lt (α := Int) hv
end Go.Proofs.Qxb6603068a
