/-
  Ranging over a map keyed by strings: the next entry, in whatever order. Over any program.
-/
import Derived.Test.Qxb6602828aMaps
namespace Go.Lx
open Go.RowKit (Below)

theorem zipWith_ent (m : KV) (bs : List Nat) : List.zipWith ent m bs = (m.zip bs).map fun p => ent p.1 p.2 := by
  induction m generalizing bs with
  | nil => simp
  | cons p r ih => cases bs with
    | nil => simp
    | cons b bs => simp [ih]
theorem perm_out {α : Type} : ∀ (L : List (α × Nat)) (e : α × Nat), (L.map (·.2)).Nodup → e ∈ L → L.Perm (e :: L.filter fun p => !(p.2 == e.2))
  | [], e, _, h => by simp at h
  | x :: L, e, hn, h => by
    simp only [List.map_cons, List.nodup_cons] at hn
    rcases List.mem_cons.1 h with rfl | h
    · have : (L.filter fun p => !(p.2 == e.2)) = L := List.filter_eq_self.2 fun p hp => by
        have : p.2 ≠ e.2 := fun eq => hn.1 (by rw [← eq]; exact List.mem_map.2 ⟨p, hp, rfl⟩)
        simpa using this
      simp [this]
    · have hne : x.2 ≠ e.2 := fun eq => hn.1 (by rw [eq]; exact List.mem_map.2 ⟨e, h, rfl⟩)
      have ih := perm_out L e hn.2 h
      have : (x :: L).filter (fun p => !(p.2 == e.2)) = x :: L.filter fun p => !(p.2 == e.2) := by
        rw [List.filter_cons_of_pos (by simpa using hne)]
      rw [this]
      exact (List.Perm.cons x ih).trans (List.Perm.swap e x _)
theorem find_born : ∀ (L : List ((ByteArray × Value) × Nat)) (c : ByteArray × Value) (bc : Nat), (L.map (·.2)).Nodup → (c, bc) ∈ L → (L.map fun p => ent p.1 p.2).find? (·.born == bc) = some (ent c bc)
  | [], c, bc, _, h => by simp at h
  | x :: L, c, bc, hn, h => by
    simp only [List.map_cons, List.nodup_cons] at hn
    rcases List.mem_cons.1 h with rfl | h
    · simp [ent]
    · have hne : x.2 ≠ bc := fun eq => hn.1 (by rw [eq]; exact List.mem_map.2 ⟨(c, bc), h, rfl⟩)
      have ih := find_born L c bc hn.2 h
      simp only [List.map_cons]
      rw [List.find?_cons_of_neg (by simpa [ent] using hne)]
      exact ih
theorem zip_snd (m : KV) (bs : List Nat) (h : bs.length = m.length) : (m.zip bs).map (·.2) = bs := List.map_snd_zip (by omega)

section
variable {P : Program} {w : World}

theorem run_next_nil {it : Nat} (hi : w.heap[it]? = some (.mapIter none 0 #[] 0)) (tt : TypeId) : (Instr.next (.pointer (some ⟨it, 0, none⟩)) false tt).run P w = .ok (.tuple #[.bool false]) w := by
  have hg : (getObj it).run P w = .ok (.mapIter none 0 #[] 0) w := by simp [getObj, Sem.run, hi]
  simp [Instr.next, hg]

/-- What is still to come, as the iterator sees it. -/
def remE (m : KV) (bs : List Nat) (seen : Array Nat) : List ((ByteArray × Value) × Nat) := (m.zip bs).filter fun p => !seen.contains p.2
theorem remE_sub {m : KV} {bs : List Nat} {seen : Array Nat} (h : bs.length = m.length) (hn : bs.Nodup) : ((remE m bs seen).map (·.2)).Nodup := by
  have : ((remE m bs seen).map (·.2)).Sublist ((m.zip bs).map (·.2)) := (List.filter_sublist).map _
  rw [zip_snd m bs h] at this
  exact this.nodup hn
theorem remE_push {m : KV} {bs : List Nat} {seen : Array Nat} (b : Nat) : remE m bs (seen.push b) = (remE m bs seen).filter fun p => !(p.2 == b) := by
  simp only [remE, List.filter_filter]
  apply List.filter_congr
  intro p _
  by_cases h1 : p.2 = b <;> by_cases h2 : p.2 ∈ seen <;> simp [h1, h2, Array.mem_push] <;> simp_all
theorem filter_arr (m : KV) (bs : List Nat) (seen : Array Nat) : (List.zipWith ent m bs).toArray.filter (fun e => !seen.contains e.born) = ((remE m bs seen).map fun p => ent p.1 p.2).toArray := by
  rw [zipWith_ent, remE]
  apply Array.ext'
  rw [Array.toList_filter]
  simp only [List.filter_map]
  rfl
def cands (es : Array MapEntry) (seen : Array Nat) (since : Nat) : Array (Option MapEntry) :=
  (if ((es.filter fun e => !seen.contains e.born).filter (·.born < since)).isEmpty then #[none] else #[]) ++ (((es.filter fun e => !seen.contains e.born).filter (·.born < since)) ++ ((es.filter fun e => !seen.contains e.born).filter (·.born ≥ since))).map some
theorem cands_spec {m : KV} {bs : List Nat} {clock : Nat} {seen : Array Nat} (hlt : ∀ b ∈ bs, b < clock) :
    cands (List.zipWith ent m bs).toArray seen clock = (if (remE m bs seen).isEmpty then #[none] else ((remE m bs seen).map fun p => some (ent p.1 p.2)).toArray) := by
  have hb : ∀ p ∈ remE m bs seen, p.2 < clock := fun p hp => hlt _ (List.of_mem_zip (List.mem_filter.1 hp).1).2
  have hold : ((remE m bs seen).map fun p => ent p.1 p.2).toArray.filter (fun e => decide (e.born < clock)) = ((remE m bs seen).map fun p => ent p.1 p.2).toArray := by
    apply Array.ext'
    rw [Array.toList_filter, List.filter_eq_self]
    intro e he
    obtain ⟨p, hp, rfl⟩ := List.mem_map.1 he
    exact decide_eq_true (show (ent p.1 p.2).born < clock from hb p hp)
  have hnew : ((remE m bs seen).map fun p => ent p.1 p.2).toArray.filter (fun e => decide (e.born ≥ clock)) = #[] := by
    apply Array.ext'
    rw [Array.toList_filter, List.filter_eq_nil_iff.2]
    intro e he
    obtain ⟨p, hp, rfl⟩ := List.mem_map.1 he
    have h1 := hb p hp
    have : ¬ (ent p.1 p.2).born ≥ clock := by simp only [ent]; omega
    simpa using this
  unfold cands
  rw [filter_arr, hold, hnew]
  cases hr : remE m bs seen with
  | nil => simp
  | cons e0 rest => simp

theorem run_next {it g : Nat} {m : KV} {bs : List Nat} {clock : Nat} {seen : Array Nat} (h : MapAt w g m bs clock) (hi : w.heap[it]? = some (.mapIter (some g) clock seen clock)) (tt : TypeId) :
    (remE m bs seen = [] ∧ (Instr.next (.pointer (some ⟨it, 0, none⟩)) false tt).run P w = .ok (.tuple #[.bool false]) w) ∨
    ∃ e w0, e ∈ remE m bs seen ∧ (w0 = w ∨ w0 = w.drew) ∧ (Instr.next (.pointer (some ⟨it, 0, none⟩)) false tt).run P w = .ok (.tuple #[.bool true, .string e.1.1, e.1.2]) { w0 with heap := w0.heap.setIfInBounds it (.mapIter (some g) clock (seen.push e.2) clock) } := by
  have hgi : (getObj it).run P w = .ok (.mapIter (some g) clock seen clock) w := by simp [getObj, Sem.run, hi]
  have hgm := run_getObj_map (P := P) h
  have hall : ∀ e ∈ List.zipWith ent m bs, e.born < clock := by
    intro e he
    rw [zipWith_ent] at he
    obtain ⟨p, hp, rfl⟩ := List.mem_map.1 he
    exact h.lt _ (List.of_mem_zip hp).2
  have hcond : (!seen.isEmpty && !(List.zipWith ent m bs).toArray.isEmpty && (List.zipWith ent m bs).toArray.all (fun e => decide (e.born ≥ clock))) = false := by
    cases hz : List.zipWith ent m bs with
    | nil => simp
    | cons x r =>
      have hx := hall x (by rw [hz]; exact List.mem_cons_self)
      have : ¬ x.born ≥ clock := by omega
      simp [this]
  have hcs := cands_spec (m := m) (seen := seen) h.lt
  have key : (Instr.next (.pointer (some ⟨it, 0, none⟩)) false tt).run P w =
      ((choose (.mapNext (cands (List.zipWith ent m bs).toArray seen clock).size)).run P w).andThen fun i w' => (match (cands (List.zipWith ent m bs).toArray seen clock)[i]? with
        | some (some e) => (do setObj it (.mapIter (some g) clock (seen.push e.born) clock); pure (.tuple #[.bool true, e.key, e.val]) : Sem Value)
        | some none => pure (.tuple #[.bool false])
        | none => stuck "Next: no such candidate").run P w' := by
    unfold Instr.next
    simp only [Sem.run_bind, hgi, Result.andThen_ok, hgm, hcond, Bool.false_eq_true, if_false]
    rfl
  cases hr : remE m bs seen with
  | nil =>
    left
    refine ⟨rfl, ?_⟩
    rw [hr] at hcs
    simp only [List.isEmpty_nil, if_true] at hcs
    rw [key, hcs]
    simp [Question.forced]
  | cons e0 rest =>
    right
    rw [hr] at hcs
    simp only [List.isEmpty_cons, Bool.false_eq_true, if_false] at hcs
    have hpick : ∃ idx w0, idx < (e0 :: rest).length ∧ (w0 = w ∨ w0 = w.drew) ∧ (choose (.mapNext (e0 :: rest).length)).run P w = .ok idx w0 := by
      rw [run_choose]
      by_cases hfo : (Question.mapNext (e0 :: rest).length).forced = true
      · rw [if_pos hfo]; exact ⟨0, w, by simp, .inl rfl, rfl⟩
      · rw [if_neg hfo]; exact ⟨_, _, Nat.mod_lt _ (by simp), .inr rfl, rfl⟩
    obtain ⟨idx, w0, hidx, hw0, hch⟩ := hpick
    refine ⟨(e0 :: rest)[idx], w0, List.getElem_mem hidx, hw0, ?_⟩
    have hi0 : w0.heap[it]? = some (.mapIter (some g) clock seen clock) := by rcases hw0 with rfl | rfl <;> exact hi
    have hset : ∀ o, (setObj it o).run P w0 = .ok () { w0 with heap := w0.heap.setIfInBounds it o } := fun o => by simp [setObj, Sem.run, hi0]
    have hget : ((e0 :: rest).map fun p => some (ent p.1 p.2)).toArray[idx]? = some (some (ent (e0 :: rest)[idx].1 (e0 :: rest)[idx].2)) := by
      rw [List.getElem?_toArray, List.getElem?_map, List.getElem?_eq_getElem hidx]; rfl
    have hsz : (((e0 :: rest).map fun p => some (ent p.1 p.2)).toArray).size = (e0 :: rest).length := by simp
    rw [key, hcs, hsz, hch]
    simp only [Result.andThen_ok, hget, Sem.run_bind, hset, Sem.run_pure]
    rfl
theorem run_entry {it g : Nat} {m : KV} {bs : List Nat} {clock : Nat} {seen : Array Nat} (h : MapAt w g m bs clock) (hi : w.heap[it]? = some (.mapIter (some g) clock seen clock)) {c : ByteArray × Value} {bc : Nat} (hc : (c, bc) ∈ m.zip bs) (hb : seen.back? = some bc) :
    (Instr.entry (.pointer (some ⟨it, 0, none⟩))).run P w = .ok (.tuple #[.string c.1, c.2]) w := by
  have hgi : (getObj it).run P w = .ok (.mapIter (some g) clock seen clock) w := by simp [getObj, Sem.run, hi]
  have hgm := run_getObj_map (P := P) h
  have hfi : (List.zipWith ent m bs).toArray.find? (·.born == bc) = some (ent c bc) := by
    rw [zipWith_ent, List.find?_toArray]
    exact find_born _ c bc (by rw [zip_snd m bs h.len]; exact h.nd) hc
  simp [Instr.entry, hgi, hgm, hb, hfi, ent]
end

section effects
variable {P : Program} {ops : Array Oper} {Q : Exit → Act → World → Prop} {S : World → Prop} {r : List (Oper × Bool)} {b : Bool} {n : Nat} {env : Env} {w : World}
variable {d : Nat} {ty : TypeId} {pos : String} {aft : Array Edge}

theorem WL.next {x : Operand} {it : Nat} {v : Value} {m rem : KV} {cur : Option (ByteArray × Value)} (hx : ev env x = some (.pointer (some ⟨it, 0, none⟩))) (hI : Iter w it v m rem cur) (hv : v ≠ .map (some it)) (hd : Nat.blt d n = true)
    (k0 : rem = [] → S w → WL P ops Q S r n ((d, .tuple #[.bool false]) :: env) w)
    (k1 : ∀ c rem' w1, rem.Perm (c :: rem') → w.grownBy w1 (some it) → w1.heap.size = w.heap.size → Iter w1 it v m rem' (some c) → S w1 ∧ WL P ops Q S r n ((d, .tuple #[.bool true, .string c.1, c.2]) :: env) w1) :
    WL P ops Q S (({ dst := some d, op := .next x false, type := ty, pos := pos, after := aft, guard := none }, false) :: r) n env w := by
  refine ⟨fun hS => ?_⟩
  refine WL.out ?_ hS
  rcases hI with ⟨rfl, rfl, rfl, rfl, hi⟩ | ⟨g, rfl, bs, clock, seen, hm, hi, hr, hc⟩
  · refine WL.eff rfl hd (fun v w1 => v = .tuple #[.bool false] ∧ w1 = w) (fun ρ hρ => ⟨_, _, ?_, rfl, rfl⟩) ?_
    · simp [execOp, hρ x _ hx, run_next_nil hi]
    · rintro v w1 ⟨rfl, rfl⟩
      exact ⟨hS, k0 rfl hS⟩
  · have hlt : it < w.heap.size := (Array.getElem?_eq_some_iff.1 hi).1
    rcases run_next (P := P) hm hi ty with ⟨he, hrun⟩ | ⟨e, w0, he, hw0, hrun⟩
    · refine WL.eff rfl hd (fun v w1 => v = .tuple #[.bool false] ∧ w1 = w) (fun ρ hρ => ⟨_, _, ?_, rfl, rfl⟩) ?_
      · simp [execOp, hρ x _ hx, hrun]
      · rintro v w1 ⟨rfl, rfl⟩
        have : rem = [] := by rw [hr]; show (remE m bs seen).map _ = []; rw [he]; rfl
        exact ⟨hS, k0 this hS⟩
    · refine WL.eff rfl hd (fun v w1 => v = .tuple #[.bool true, .string e.1.1, e.1.2] ∧ w1 = { w0 with heap := w0.heap.setIfInBounds it (.mapIter (some g) clock (seen.push e.2) clock) }) (fun ρ hρ => ⟨_, _, ?_, rfl, rfl⟩) ?_
      · simp [execOp, hρ x _ hx, hrun]
      · rintro v w1 ⟨rfl, rfl⟩
        have hh0 : w0.heap = w.heap := by rcases hw0 with rfl | rfl <;> rfl
        have hgn : g ≠ it := fun e => hv (by rw [e])
        have hg1 : w.grownBy { w0 with heap := w0.heap.setIfInBounds it (.mapIter (some g) clock (seen.push e.2) clock) } (some it) := by
          refine ⟨?_, ?_, ?_, by simp [hh0], fun k _ hk => ?_⟩
          · rcases hw0 with rfl | rfl <;> rfl
          · rcases hw0 with rfl | rfl <;> rfl
          · rcases hw0 with rfl | rfl <;> rfl
          · have hne : it ≠ k := fun e => hk (by rw [e])
            show (w0.heap.setIfInBounds it _)[k]? = _
            rw [Array.getElem?_setIfInBounds_ne hne, hh0]
        refine k1 e.1 ((remE m bs (seen.push e.2)).map (·.1)) _ ?_ hg1 (by simp [hh0]) ?_
        · rw [hr]
          show ((remE m bs seen).map (·.1)).Perm _
          rw [remE_push]
          exact (perm_out _ e (remE_sub hm.len hm.nd) he).map _
        · refine .inr ⟨g, rfl, bs, clock, seen.push e.2, hm.of_block (hg1.block g hm.lt_size (fun e => hgn (Option.some.inj e))), ?_, rfl, ?_⟩
          · show (w0.heap.setIfInBounds it _)[it]? = _
            rw [hh0]; simp [hlt]
          · intro c hc'
            cases hc'
            exact ⟨e.2, (List.mem_filter.1 he).1, by simp⟩
theorem WL.entry {x : Operand} {it : Nat} {v : Value} {m rem : KV} {c : ByteArray × Value} (hx : ev env x = some (.pointer (some ⟨it, 0, none⟩))) (hE : ∀ w', Cls b S w w' → w' = w) (hI : Iter w it v m rem (some c)) (hd : Nat.blt d n = true)
    (k : WL P ops Q S r n ((d, .tuple #[.string c.1, c.2]) :: env) w) :
    WL P ops Q S (({ dst := some d, op := .entry x, type := ty, pos := pos, after := aft, guard := none }, b) :: r) n env w := by
  rcases hI with ⟨_, _, _, h, _⟩ | ⟨g, rfl, bs, clock, seen, hm, hi, hr, hc⟩
  · cases h
  · obtain ⟨bc, h1, h2⟩ := hc c rfl
    exact WL.read rfl hd (v := .tuple #[.string c.1, c.2]) (fun w' hw' ρ hρ => by rw [hE w' hw']; simp [execOp, hρ x _ hx, run_entry hm hi h1 h2]) k
end effects
end Go.Lx
