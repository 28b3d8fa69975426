import Derived.Test.Qxb6602828aOpen1
import Derived.Test.Qxb6602828aCh1
import Derived.Deep.Slices
namespace Go.Proofs.Qxb6602828a
open Go.ChangeShapes Go.WideShapes Go.ChangeAt Go.RowKit Go.Lx

/-- A slice of strings that came in, as the walks read it. -/
theorem open_strs {H : Type} {enc : TypeId × Value → H} {W : World} {fuel : Nat} {a : Option Addr} {len cap : Nat} {x : DataW H × List MemPlace}
    (h : DataW.trod enc Try.prog W 0 (fun _ => true) true fuel 40 [.slice a len cap] = some x) : ∃ xs : List ByteArray, StrsV W (.slice a len cap) xs ∧ xs.length ≤ 9223372036854775807 := by
  rcases Deep.open_slice1 Try.underlying40 (by kernel_rfl) h with ⟨hcs, _⟩ | ⟨ad, l, c, m, n, V0, D0, P0, hcs, _, hl, hm, hmm, _, hx⟩
  · cases hcs
    exact ⟨[], ⟨none, 0, rfl, ⟨fun h => absurd rfl h⟩, Nat.le_refl _⟩, by simp⟩
  · cases hcs
    simp only [if_true] at hmm
    subst hmm
    have hv : ∀ i, i < len → ∃ e : ByteArray, V0 i = .string e := by
      intro i hi
      obtain ⟨_, h0⟩ := hx i (by omega)
      obtain ⟨s, e0, _, _⟩ := DataW.trod_string Try.underlying9 h0
      simp only [List.cons.injEq, and_true] at e0
      exact ⟨s, e0⟩
    obtain ⟨f, hf⟩ := Deep.choose_lt (α := ByteArray) hv
    refine ⟨(List.range len).map f, ⟨some ad, m, by simp, ⟨fun hne => ?_⟩, by simpa using hl⟩, ?_⟩
    · have hpos : 0 < len := by
        rcases Nat.eq_zero_or_pos len with e | e
        · subst e; simp at hne
        · exact e
      obtain ⟨bk, o, sp⟩ := ad
      obtain ⟨hc0, _⟩ := hx 0 (by omega)
      have hsp : sp = none := by simpa [Addr.add] using spot_none hc0
      subst hsp
      refine ⟨bk, o, rfl, fun i e he => ?_⟩
      have hi : i < len := by
        have := (List.getElem?_eq_some_iff.1 he).1
        simpa using this
      have hfe : f i = e := by simpa [hi] using he
      obtain ⟨h0, _⟩ := hx i (by omega)
      have e0 := hf i hi
      rw [add_none, e0] at h0
      rw [← hfe]
      exact h0
    · simp only [List.length_map, List.length_range]
      simp only [maxLen] at hm
      omega
end Go.Proofs.Qxb6602828a
