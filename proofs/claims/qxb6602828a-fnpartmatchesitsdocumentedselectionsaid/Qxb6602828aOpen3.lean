import Derived.Test.Qxb6602828aOpen2
import Derived.Test.Qxb6602828aPt8
namespace Go.Proofs.Qxb6602828a
open Go.ChangeShapes Go.WideShapes Go.ChangeAt Go.RowKit Go.Lx

theorem c9 : Try.prog.cellsOf 9 = 1 := by kernel_rfl
theorem c5 : Try.prog.cellsOf 5 = 1 := by kernel_rfl
theorem c22 : Try.prog.cellsOf 22 = 1 := by kernel_rfl
theorem c30 : Try.prog.cellsOf 30 = 1 := by kernel_rfl
theorem c2 : Try.prog.cellsOf 2 = 1 := by kernel_rfl
theorem c4 : Try.prog.cellsOf 4 = 1 := by kernel_rfl
theorem c62 : Try.prog.cellsOf 62 = 4 := by kernel_rfl
theorem c64 : Try.prog.cellsOf 64 = 22 := by kernel_rfl

theorem open_time {H : Type} {enc : TypeId × Value → H} {W : World} {fuel : Nat} {v : Value} {x : DataW H × List MemPlace}
    (h : DataW.trod enc Try.prog W 0 (fun _ => true) true fuel 22 [v] = some x) : ∃ xs : List El, ElsV W v xs ∧ xs.length ≤ 9223372036854775807 := by
  have h' := h
  rcases Deep.open_slice Try.underlying22 h with ⟨hcs, _⟩ | ⟨a, len, cap, m, n, D, Pl, hcs, _⟩
  · cases hcs
    obtain ⟨xs, h1, _, h3⟩ := open_els h'
    exact ⟨xs, h1, h3⟩
  · cases hcs
    obtain ⟨xs, h1, _, h3⟩ := open_els h'
    exact ⟨xs, h1, h3⟩
theorem open_stamp {H : Type} {enc : TypeId × Value → H} {W : World} {fuel : Nat} {v0 v1 v2 v3 : Value} {x : DataW H × List MemPlace}
    (h : DataW.trod enc Try.prog W 0 (fun _ => true) true fuel 62 [v0, v1, v2, v3] = some x) : ∃ s : Stm, [v0, v1, v2, v3] = s.cells := by
  obtain ⟨xs, k, _, _, _, hxl, hf⟩ := DataW.trod_struct Try.underlying62 h
  match xs, hxl with
  | [y0, y1, y2, y3], _ =>
    have g0 := hf 0 _ rfl
    have g1 := hf 1 _ rfl
    have g2 := hf 2 _ rfl
    have g3 := hf 3 _ rfl
    simp [c9, c30, c2] at g0 g1 g2 g3
    obtain ⟨s0, e0, _, _⟩ := DataW.trod_string Try.underlying9 g0
    obtain ⟨i1, e1, _, _⟩ := DataW.trod_int Try.underlying30 g1
    obtain ⟨i2, e2, _, _⟩ := DataW.trod_int Try.underlying2 g2
    obtain ⟨s3, e3, _, _⟩ := DataW.trod_string Try.underlying9 g3
    cases e0; cases e1; cases e2; cases e3
    exact ⟨⟨s0, i1, i2, s3⟩, rfl⟩
theorem open_entry {H : Type} {enc : TypeId × Value → H} {W : World} {fuel : Nat} {cs : List Value} {x : DataW H × List MemPlace}
    (h : DataW.trod enc Try.prog W 0 (fun _ => true) true fuel 64 cs = some x) (hl : cs.length = 22) : ∃ e : E1, cs = e.cells ∧ e.ok W ∧ e.bnd 9223372036854775807 := by
  obtain ⟨xs, k, _, _, _, hxl, hf⟩ := DataW.trod_struct Try.underlying64 h
  match xs, hxl, cs, hl with
  | [y0, y1, y2, y3, y4, y5, y6, y7, y8, y9, y10, y11, y12], _, [v0, v1, v2, v3, v4, v5, v6, v7, v8, v9, v10, v11, v12, v13, v14, v15, v16, v17, v18, v19, v20, v21], _ =>
    have g0 := hf 0 _ rfl
    have g1 := hf 1 _ rfl
    have g2 := hf 2 _ rfl
    have g3 := hf 3 _ rfl
    have g4 := hf 4 _ rfl
    have g5 := hf 5 _ rfl
    have g6 := hf 6 _ rfl
    have g7 := hf 7 _ rfl
    have g8 := hf 8 _ rfl
    have g9 := hf 9 _ rfl
    have g10 := hf 10 _ rfl
    have g11 := hf 11 _ rfl
    have g12 := hf 12 _ rfl
    simp [c9, c5, c22, c62] at g0 g1 g2 g3 g4 g5 g6 g7 g8 g9 g10 g11 g12
    obtain ⟨s0, e0, _, _⟩ := DataW.trod_string Try.underlying9 g0
    obtain ⟨i1, e1, _, _⟩ := DataW.trod_int Try.underlying5 g1
    obtain ⟨x2, t2, l2⟩ := open_time g2
    obtain ⟨x3, t3, l3⟩ := open_time g3
    obtain ⟨x4, t4, l4⟩ := open_time g4
    obtain ⟨x5, t5, l5⟩ := open_time g5
    obtain ⟨x6, t6, l6⟩ := open_time g6
    obtain ⟨s7, e7⟩ := open_stamp g7
    obtain ⟨s8, e8⟩ := open_stamp g8
    obtain ⟨x9, t9, l9⟩ := open_time g9
    obtain ⟨s10, e10⟩ := open_stamp g10
    obtain ⟨x11, t11, l11⟩ := open_time g11
    obtain ⟨x12, t12, l12⟩ := open_time g12
    cases e0; cases e1; cases e7; cases e8; cases e10
    exact ⟨⟨s0, i1, v2, v3, v4, v5, v6, v15, v20, v21, x2, x3, x4, x5, x6, x9, x11, x12, s7, s8, s10⟩, rfl, ⟨t2, t3, t4, t5, t6, t9, t11, t12⟩, ⟨l2, l3, l4, l5, l6, l9, l11, l12⟩⟩
theorem open_ents {H : Type} {enc : TypeId × Value → H} {W : World} {fuel : Nat} {a : Option Addr} {len cap : Nat} {x : DataW H × List MemPlace}
    (h : DataW.trod enc Try.prog W 0 (fun _ => true) true fuel 53 [.slice a len cap] = some x) : ∃ es : List E1, EntsV W (.slice a len cap) es ∧ es.length ≤ 9223372036854775807 ∧ ∀ e ∈ es, e.bnd 9223372036854775807 := by
  rcases Deep.open_slice Try.underlying53 h with ⟨hcs, _⟩ | ⟨ad, l, c, m, n, D, Pl, hcs, _, hl, hm, hmm, _, hx⟩
  · cases hcs
    exact ⟨[], ⟨none, 0, rfl, ⟨fun h => absurd rfl h, fun e he => by simp at he⟩, Nat.le_refl _⟩, by simp, fun e he => by simp at he⟩
  · cases hcs
    simp only [if_true] at hmm
    subst hmm
    have hv : ∀ i, i < len → ∃ e : E1, (∀ j v, e.cells[j]? = some v → W.cell? (ad.add (i * 22 + j)) = some v) ∧ e.ok W ∧ e.bnd 9223372036854775807 := by
      intro i hi
      obtain ⟨cs, h1, h2⟩ := hx i (by omega)
      rw [c64] at h1
      obtain ⟨_, hlen, hcell⟩ := World.cells?_some h1
      obtain ⟨e, rfl, h3, h4⟩ := open_entry h2 hlen
      refine ⟨e, fun j v hj => ?_, h3, h4⟩
      have hj22 : j < 22 := by
        have := (List.getElem?_eq_some_iff.1 hj).1
        rw [hlen] at this; exact this
      have := hcell j hj22
      rw [Deep.add_add] at this
      rw [this]; exact hj
    obtain ⟨f, hf⟩ := Deep.choose_lt (α := E1) hv
    refine ⟨(List.range len).map f, ⟨some ad, m, by simp, ⟨fun hne => ?_, fun e he => ?_⟩, by simpa using hl⟩, ?_, fun e he => ?_⟩
    · have hpos : 0 < len := by
        rcases Nat.eq_zero_or_pos len with e | e
        · subst e; simp at hne
        · exact e
      obtain ⟨bk, o, sp⟩ := ad
      have hc0 := (hf 0 hpos).1 0 _ rfl
      have hsp : sp = none := by simpa [Addr.add] using spot_none hc0
      subst hsp
      refine ⟨bk, o, rfl, fun i e he j v hj => ?_⟩
      have hi : i < len := by
        have := (List.getElem?_eq_some_iff.1 he).1
        simpa using this
      have hfe : f i = e := by simpa [hi] using he
      subst hfe
      have := (hf i hi).1 j v hj
      rw [add_none] at this
      rw [Nat.add_assoc]
      exact this
    · obtain ⟨i, hi, rfl⟩ := List.mem_map.1 he
      exact (hf i (by simpa using hi)).2.1
    · simp only [List.length_map, List.length_range]
      simp only [maxLen] at hm
      omega
    · obtain ⟨i, hi, rfl⟩ := List.mem_map.1 he
      exact (hf i (by simpa using hi)).2.2
theorem open_flags {H : Type} {enc : TypeId × Value → H} {W : World} {fuel : Nat} {a : Option Addr} {len cap : Nat} {x : DataW H × List MemPlace}
    (h : DataW.trod enc Try.prog W 0 (fun _ => true) true fuel 54 [.slice a len cap] = some x) : ∃ fs : List Fl, FlagsV W (.slice a len cap) fs ∧ fs.length ≤ 9223372036854775807 := by
  rcases Deep.open_slice_pairs Try.underlying54 Try.underlying74 (by kernel_rfl) rfl rfl (by kernel_rfl) (by kernel_rfl) h with ⟨hcs, _⟩ | ⟨ad, l, c, m, n, V0, V1, D0, D1, P0, P1, hcs, _, hl, hm, hmm, _, hx⟩
  · cases hcs
    exact ⟨[], ⟨none, 0, rfl, ⟨fun h => absurd rfl h⟩, Nat.le_refl _⟩, by simp⟩
  · cases hcs
    simp only [if_true] at hmm
    subst hmm
    have hv : ∀ i, i < len → ∃ e : Fl, V0 i = .string e.1 ∧ V1 i = .bool e.2 := by
      intro i hi
      obtain ⟨_, _, h0, h1⟩ := hx i (by omega)
      obtain ⟨s, e0, _, _⟩ := DataW.trod_string Try.underlying9 h0
      obtain ⟨k, e1, _⟩ := DataW.trod_bool Try.underlying4 h1
      simp only [List.cons.injEq, and_true] at e0 e1
      exact ⟨(s, k), e0, e1⟩
    obtain ⟨f, hf⟩ := Deep.choose_lt (α := Fl) hv
    refine ⟨(List.range len).map f, ⟨some ad, m, by simp, ⟨fun hne => ?_⟩, by simpa using hl⟩, ?_⟩
    · have hpos : 0 < len := by
        rcases Nat.eq_zero_or_pos len with e | e
        · subst e; simp at hne
        · exact e
      obtain ⟨bk, o, sp⟩ := ad
      obtain ⟨hc0, _, _, _⟩ := hx 0 (by omega)
      have hsp : sp = none := by simpa [Addr.add] using spot_none hc0
      subst hsp
      refine ⟨bk, o, rfl, fun i e he => ?_⟩
      have hi : i < len := by
        have := (List.getElem?_eq_some_iff.1 he).1
        simpa using this
      have hfe : f i = e := by simpa [hi] using he
      obtain ⟨h0, h1, _, _⟩ := hx i (by omega)
      obtain ⟨e0, e1⟩ := hf i hi
      rw [add_none, e0] at h0
      rw [add_none, e1] at h1
      rw [← hfe]
      exact ⟨h0, by simpa [Nat.add_assoc] using h1⟩
    · simp only [List.length_map, List.length_range]
      simp only [maxLen] at hm
      omega
end Go.Proofs.Qxb6602828a
