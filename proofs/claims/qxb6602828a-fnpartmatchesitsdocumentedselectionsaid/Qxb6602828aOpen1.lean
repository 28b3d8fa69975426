import Derived.Test.Qxb6602828aRows
import Derived.Test.Qxb6602828aMax2
import Derived.Test.Qxb6602828aPlain1
import Derived.ProofKit
import Derived.OpenShut
import Derived.ShutString
import Derived.ChangeOld
import Derived.Deep.SlicePairs
namespace Go.Proofs.Qxb6602828a
open Go.ChangeShapes Go.WideShapes Go.ChangeAt Go.RowKit Go.Lx

theorem own : ownKnob Try.prog.godebug = none := by kernel_rfl
theorem laidOut : laidOutB Try.prog = true := by kernel_rfl

theorem spot_none {w : World} {a : Addr} {v : Value} (h : w.cell? a = some v) : a.spot = none := World.cell?_spot h

/-- A slice of elements that came in, as the walks read it. -/
theorem open_els {H : Type} {enc : TypeId × Value → H} {W : World} {fuel : Nat} {a : Option Addr} {len cap : Nat} {x : DataW H × List MemPlace}
    (h : DataW.trod enc Try.prog W 0 (fun _ => true) true fuel 22 [.slice a len cap] = some x) : ∃ xs : List El, ElsV W (.slice a len cap) xs ∧ NN xs ∧ xs.length ≤ 9223372036854775807 := by
  rcases Deep.open_slice_pairs Try.underlying22 Try.underlying36 (by kernel_rfl) rfl rfl (by kernel_rfl) (by kernel_rfl) h with ⟨hcs, _⟩ | ⟨ad, l, c, m, n, V0, V1, D0, D1, P0, P1, hcs, _, hl, hm, hmm, _, hx⟩
  · cases hcs
    exact ⟨[], ⟨none, 0, rfl, ⟨fun h => absurd rfl h⟩, Nat.le_refl _⟩, fun x hx => by simp at hx, by simp⟩
  · cases hcs
    simp only [if_true] at hmm
    subst hmm
    have hv : ∀ i, i < len → ∃ e : El, V0 i = .string e.1 ∧ V1 i = .int .u64 e.2 ∧ 0 ≤ e.2 := by
      intro i hi
      obtain ⟨_, _, h0, h1⟩ := hx i (by omega)
      obtain ⟨s, e0, _, _⟩ := DataW.trod_string Try.underlying9 h0
      obtain ⟨k, e1, _, hw⟩ := DataW.trod_int Try.underlying30 h1
      simp only [List.cons.injEq, and_true] at e0 e1
      refine ⟨(s, k), e0, e1, ?_⟩
      simp [Lit.wf, IntKind.min, IntKind.max, IntKind.signed, IntKind.bits] at hw
      exact hw.1
    obtain ⟨f, hf⟩ := Deep.choose_lt (α := El) hv
    refine ⟨(List.range len).map f, ⟨some ad, m, by simp, ⟨fun hne => ?_⟩, by simpa using hl⟩, ?_, ?_⟩
    · have hpos : 0 < len := by
        rcases Nat.eq_zero_or_pos len with e | e
        · subst e; simp at hne
        · exact e
      obtain ⟨bk, o, sp⟩ := ad
      obtain ⟨hc0, _, _, _⟩ := hx 0 (by omega)
      have hsp : sp = none := by simpa [Addr.add] using spot_none hc0
      subst hsp
      refine ⟨bk, o, rfl, fun i e he => ?_⟩
      have hi : i < len := by
        have := (List.getElem?_eq_some_iff.1 he).1
        simpa using this
      have hfe : f i = e := by simpa [hi] using he
      obtain ⟨h0, h1, _, _⟩ := hx i (by omega)
      obtain ⟨e0, e1, _⟩ := hf i hi
      rw [add_none, e0] at h0
      rw [add_none, e1] at h1
      rw [← hfe]
      exact ⟨h0, by simpa [Nat.add_assoc] using h1⟩
    · intro e he
      obtain ⟨i, hi, rfl⟩ := List.mem_map.1 he
      exact (hf i (by simpa using hi)).2.2
    · simp only [maxLen] at hm
      simp; omega
end Go.Proofs.Qxb6602828a
