import Derived.Test.Qxb6603068aO1
import Derived.Test.Qxb6603068aT5
namespace Go.Proofs.Qxb6603068a
open Go.ChangeShapes Go.WideShapes Go.ChangeAt Go.RowKit Go.Lx

theorem c29 : Try.prog.cellsOf 29 = 512 := by kernel_rfl
theorem nat_of {xs : List Int} (h : ∀ x ∈ xs, 0 ≤ x) : ∃ ns : List Nat, xs = natL ns := by
  refine ⟨xs.map Int.toNat, ?_⟩
  unfold natL
  rw [List.map_map]
  symm
  have : ∀ x ∈ xs, ((fun (n : Nat) => (n : Int)) ∘ Int.toNat) x = x := fun x hx => by
    have := h x hx
    simp only [Function.comp]
    omega
  rw [List.map_congr_left this, List.map_id']
theorem nat_mem {ns : List Nat} {n : Nat} (h : n ∈ ns) : (n : Int) ∈ natL ns := List.mem_map.2 ⟨n, h, rfl⟩
/-- The lengths of the codes that came in. -/
theorem open_lens {H : Type} {enc : TypeId × Value → H} {W : World} {fuel : Nat} {a : Option Addr} {len cap : Nat} {x : DataW H × List MemPlace}
    (h : DataW.trod enc Try.prog W 0 (fun _ => true) true fuel 22 [.slice a len cap] = some x) : ∃ f : Nat → Nat → Nat, LV W (.slice a len cap) len f ∧ len ≤ 9223372036854775807 ∧ ∀ t u, f t u < 256 := by
  rcases Deep.open_slice Try.underlying22 h with ⟨hcs, _⟩ | ⟨ad, l, c, m, n, D, Pl, hcs, _, hl, hm, hmm, _, hx⟩
  · cases hcs
    exact ⟨fun _ _ => 0, ⟨none, 0, rfl, fun h => by omega⟩, by omega, fun _ _ => by simp⟩
  · cases hcs
    simp only [if_true] at hmm
    subst hmm
    have hv : ∀ i, i < len → ∃ e : Nat → Nat, (∀ u, u < 512 → W.cell? (ad.add (i * 512 + u)) = some (.int .u8 (e u : Int))) ∧ ∀ u, e u < 256 := by
      intro i hi
      obtain ⟨cs, h1, h2⟩ := hx i (by omega)
      rw [c29] at h1
      obtain ⟨_, hlen, hcell⟩ := World.cells?_some h1
      obtain ⟨_, g, hg⟩ := open_bytes Try.underlying29 c29 h2
      refine ⟨fun u => if u < 512 then (g u).toNat else 0, fun u hu => ?_, fun u => ?_⟩
      · have := hcell u hu
        rw [Deep.add_add] at this
        rw [this, (hg u hu).1]
        have h3 := (hg u hu).2
        have e3 : (((g u).toNat : Nat) : Int) = g u := by omega
        simp only [if_pos hu]
        rw [e3]
      · by_cases hu : u < 512
        · have h3 := (hg u hu).2
          simp only [if_pos hu]
          omega
        · simp only [if_neg hu]
          omega
    obtain ⟨f, hf⟩ := Deep.choose_lt (α := Nat → Nat) hv
    refine ⟨fun t u => if t < len then f t u else 0, ⟨some ad, m, rfl, fun hpos => ?_⟩, ?_, fun t u => ?_⟩
    · obtain ⟨bk, o, sp⟩ := ad
      have hc0 := (hf 0 hpos).1 0 (by omega)
      have hsp : sp = none := by simpa [Addr.add] using spot_none hc0
      subst hsp
      refine ⟨bk, o, rfl, fun t u ht hu => ?_⟩
      have := (hf t ht).1 u hu
      rw [add_none] at this
      simp only [if_pos ht]
      exact this
    · simp only [maxLen] at hm
      omega
    · by_cases ht : t < len
      · simp only [if_pos ht]
        exact (hf t ht).2 u
      · simp only [if_neg ht]
        omega
end Go.Proofs.Qxb6603068a
