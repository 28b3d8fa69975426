import Derived.Test.Qxb6602828aMax2
namespace Go.Lx

/-! ### The order of names -/
theorem bl_irrefl : ∀ (a : List UInt8), Op.bytesLess a a = false
  | [] => rfl
  | x :: a => by simp [Op.bytesLess, bl_irrefl a]
theorem bl_trans : ∀ (a b c : List UInt8), Op.bytesLess a b = true → Op.bytesLess b c = true → Op.bytesLess a c = true
  | _, _, [], _, h => by simp [Op.bytesLess] at h
  | _, [], _ :: _, h, _ => by simp [Op.bytesLess] at h
  | [], _ :: _, _ :: _, _, _ => by simp [Op.bytesLess]
  | x :: a, y :: b, z :: c, h1, h2 => by
    simp only [Op.bytesLess, Bool.or_eq_true, decide_eq_true_eq, Bool.and_eq_true, beq_iff_eq] at h1 h2 ⊢
    rcases h1 with h1 | ⟨rfl, h1⟩
    · rcases h2 with h2 | ⟨rfl, h2⟩
      · exact .inl (UInt8.lt_trans h1 h2)
      · exact .inl h1
    · rcases h2 with h2 | ⟨rfl, h2⟩
      · exact .inl h2
      · exact .inr ⟨rfl, bl_trans a b c h1 h2⟩
theorem bl_tri : ∀ (a b : List UInt8), Op.bytesLess a b = false → Op.bytesLess b a = false → a = b
  | [], [], _, _ => rfl
  | [], _ :: _, h, _ => by simp [Op.bytesLess] at h
  | _ :: _, [], _, h => by simp [Op.bytesLess] at h
  | x :: a, y :: b, h1, h2 => by
    simp only [Op.bytesLess, Bool.or_eq_false_iff, decide_eq_false_iff_not, Bool.and_eq_false_iff, beq_eq_false_iff_ne] at h1 h2
    have e : x = y := by
      have h3 := h1.1; have h4 := h2.1
      rw [UInt8.not_lt] at h3 h4
      exact UInt8.le_antisymm h4 h3
    subst e
    rw [bl_tri a b (h1.2.resolve_left (by simp)) (h2.2.resolve_left (by simp))]
theorem nlt_irrefl (a : ByteArray) : nlt a a = false := bl_irrefl _
theorem nlt_trans {a b c : ByteArray} (h1 : nlt a b = true) (h2 : nlt b c = true) : nlt a c = true := bl_trans _ _ _ h1 h2
theorem nlt_tri {a b : ByteArray} (h1 : nlt a b = false) (h2 : nlt b a = false) : a = b := ba_eq.1 (bl_tri _ _ h1 h2)
theorem nlt_ne {a b : ByteArray} (h : nlt a b = true) : a ≠ b := by rintro rfl; rw [nlt_irrefl] at h; cases h
theorem nlt_asymm {a b : ByteArray} (h : nlt a b = true) : nlt b a = false := by
  cases h' : nlt b a with
  | false => rfl
  | true => have := nlt_trans h h'; rw [nlt_irrefl] at this; cases this

/-! ### Sorted lists -/
def Srt (xs : List El) : Prop := xs.Pairwise fun a b => nlt a.1 b.1 = true
theorem SortedA.srt : ∀ {xs : List El}, SortedA xs → Srt xs
  | [], _ => .nil
  | [x], _ => by simp [Srt]
  | x :: y :: r, h => by
    have hxy : nlt x.1 y.1 = true := h 0 (by simp)
    have ih : Srt (y :: r) := SortedA.srt (fun i hi => h (i + 1) (by simpa using hi))
    refine List.Pairwise.cons ?_ ih
    intro z hz
    rcases List.mem_cons.1 hz with rfl | hz
    · exact hxy
    · exact nlt_trans hxy ((List.pairwise_cons.1 ih).1 z hz)
def NN (xs : List El) : Prop := ∀ x ∈ xs, 0 ≤ x.2
def has (xs : List El) (nm : ByteArray) : Prop := ∃ x ∈ xs, x.1 = nm
def val : List El → ByteArray → Int
  | [], _ => 0
  | x :: r, nm => if x.1 = nm then x.2 else val r nm
theorem has_nil (nm : ByteArray) : ¬ has [] nm := by simp [has]
theorem has_cons (x : El) (xs : List El) (nm : ByteArray) : has (x :: xs) nm ↔ x.1 = nm ∨ has xs nm := by simp [has]
theorem val_cons (x : El) (xs : List El) (nm : ByteArray) : val (x :: xs) nm = if x.1 = nm then x.2 else val xs nm := rfl
theorem val_not : ∀ {xs : List El} {nm : ByteArray}, ¬ has xs nm → val xs nm = 0
  | [], _, _ => rfl
  | x :: r, nm, h => by
    rw [has_cons] at h
    rw [val_cons, if_neg (fun e => h (.inl e)), val_not (fun e => h (.inr e))]
theorem not_has {xs : List El} {nm : ByteArray} (h : ∀ x ∈ xs, nlt nm x.1 = true) : ¬ has xs nm := by
  rintro ⟨x, hx, rfl⟩
  exact nlt_ne (h x hx) rfl
theorem val_mem : ∀ {xs : List El} {x : El}, Srt xs → x ∈ xs → val xs x.1 = x.2
  | [], x, _, h => by simp at h
  | y :: r, x, hs, h => by
    obtain ⟨h1, h2⟩ := List.pairwise_cons.1 hs
    rcases List.mem_cons.1 h with rfl | h
    · rw [val_cons, if_pos rfl]
    · rw [val_cons, if_neg (nlt_ne (h1 x h)), val_mem h2 h]
theorem val_nn {xs : List El} (h : NN xs) (nm : ByteArray) : 0 ≤ val xs nm := by
  induction xs with
  | nil => exact Int.le_refl _
  | cons x r ih =>
    rw [val_cons]
    split
    · exact h x List.mem_cons_self
    · exact ih (fun y hy => h y (List.mem_cons_of_mem _ hy))
theorem srt_below {x : El} {xs : List El} (h : Srt (x :: xs)) : ∀ y ∈ xs, nlt x.1 y.1 = true := (List.pairwise_cons.1 h).1
theorem srt_tail {x : El} {xs : List El} (h : Srt (x :: xs)) : Srt xs := (List.pairwise_cons.1 h).2

structure MSpec (xs ys ms : List El) : Prop where
  srt : Srt ms
  has : ∀ nm, has ms nm ↔ has xs nm ∨ (has ys nm ∧ 0 < val ys nm)
  val : ∀ z ∈ ms, z.2 = max (val xs z.1) (val ys z.1)

theorem merge_spec : ∀ (n : Nat) (xs ys : List El), xs.length + ys.length ≤ n → Srt xs → Srt ys → NN xs → NN ys → MSpec xs ys (merge xs ys) := by
  intro n
  induction n with
  | zero =>
    intro xs ys h _ _ _ _
    have hx : xs = [] := List.eq_nil_of_length_eq_zero (by omega)
    have hy : ys = [] := List.eq_nil_of_length_eq_zero (by omega)
    subst hx; subst hy
    exact ⟨.nil, by simp [merge_nil, has], by simp [merge_nil]⟩
  | succ n ih =>
    intro xs ys hl hsx hsy hnx hny
    match xs, ys, hl, hsx, hsy, hnx, hny with
    | [], [], _, _, _, _, _ => exact ⟨.nil, by simp [merge_nil, has], by simp [merge_nil]⟩
    | x :: xs, [], hl, hsx, hsy, hnx, hny =>
      have I := ih xs [] (by simp at hl ⊢; omega) (srt_tail hsx) hsy (fun y hy => hnx y (List.mem_cons_of_mem _ hy)) hny
      rw [merge_l]
      have hbel : ∀ z ∈ merge xs [], nlt x.1 z.1 = true := by
        intro z hz
        rcases (I.has z.1).1 ⟨z, hz, rfl⟩ with ⟨u, hu, e⟩ | ⟨h, _⟩
        · rw [← e]; exact srt_below hsx u hu
        · exact absurd h (has_nil _)
      refine ⟨List.Pairwise.cons hbel I.srt, fun nm => ?_, fun z hz => ?_⟩
      · rw [has_cons, has_cons, I.has]; simp [or_assoc]
      · have h0 := hnx x List.mem_cons_self
        rcases List.mem_cons.1 hz with rfl | hz
        · rw [val_cons, if_pos rfl]; simp only [Lx.val]; omega
        · rw [I.val z hz, val_cons, if_neg (nlt_ne (hbel z hz))]
    | [], y :: ys, hl, hsx, hsy, hnx, hny =>
      have I := ih [] ys (by simp at hl ⊢; omega) hsx (srt_tail hsy) hnx (fun z hz => hny z (List.mem_cons_of_mem _ hz))
      have h0 := hny y List.mem_cons_self
      have hyn : ¬ has ys y.1 := not_has (srt_below hsy)
      have hbel : ∀ z ∈ merge [] ys, nlt y.1 z.1 = true := by
        intro z hz
        rcases (I.has z.1).1 ⟨z, hz, rfl⟩ with h | ⟨⟨u, hu, e⟩, _⟩
        · exact absurd h (has_nil _)
        · rw [← e]; exact srt_below hsy u hu
      rw [merge_r]
      by_cases hp : 0 < y.2
      · rw [if_pos hp]
        refine ⟨List.Pairwise.cons hbel I.srt, fun nm => ?_, fun z hz => ?_⟩
        · rw [has_cons, I.has, has_cons, val_cons]
          by_cases e : y.1 = nm
          · simp [e, hp]
          · simp [e, has_nil]
        · rcases List.mem_cons.1 hz with rfl | hz
          · rw [val_cons, if_pos rfl]; simp only [Lx.val]; omega
          · rw [I.val z hz, val_cons, if_neg (nlt_ne (hbel z hz))]
      · rw [if_neg hp]
        refine ⟨I.srt, fun nm => ?_, fun z hz => ?_⟩
        · rw [I.has, has_cons, val_cons]
          by_cases e : y.1 = nm
          · subst e; simp [hp, hyn, has_nil]
          · simp [e, has_nil]
        · rw [I.val z hz, val_cons, if_neg (nlt_ne (hbel z hz))]
    | x :: xs, y :: ys, hl, hsx, hsy, hnx, hny =>
      have hx0 := hnx x List.mem_cons_self
      have hy0 := hny y List.mem_cons_self
      have hnx' : NN xs := fun z hz => hnx z (List.mem_cons_of_mem _ hz)
      have hny' : NN ys := fun z hz => hny z (List.mem_cons_of_mem _ hz)
      rw [merge_lr]
      cases hxy : nlt x.1 y.1 with
      | true =>
        have I := ih xs (y :: ys) (by simp at hl ⊢; omega) (srt_tail hsx) hsy hnx' hny
        have hall : ∀ z ∈ y :: ys, nlt x.1 z.1 = true := by
          intro z hz
          rcases List.mem_cons.1 hz with rfl | hz
          · exact hxy
          · exact nlt_trans hxy (srt_below hsy z hz)
        have hbel : ∀ z ∈ merge xs (y :: ys), nlt x.1 z.1 = true := by
          intro z hz
          rcases (I.has z.1).1 ⟨z, hz, rfl⟩ with ⟨u, hu, e⟩ | ⟨⟨u, hu, e⟩, _⟩
          · rw [← e]; exact srt_below hsx u hu
          · rw [← e]; exact hall u hu
        simp only [if_true]
        refine ⟨List.Pairwise.cons hbel I.srt, fun nm => ?_, fun z hz => ?_⟩
        · rw [has_cons, has_cons x, I.has]; simp [or_assoc]
        · rcases List.mem_cons.1 hz with rfl | hz
          · rw [val_cons, if_pos rfl, val_not (not_has hall)]; omega
          · rw [I.val z hz, val_cons x, if_neg (nlt_ne (hbel z hz))]
      | false =>
        simp only [Bool.false_eq_true, if_false]
        cases hyx : nlt y.1 x.1 with
        | true =>
          have I := ih (x :: xs) ys (by simp at hl ⊢; omega) hsx (srt_tail hsy) hnx hny'
          have hall : ∀ z ∈ x :: xs, nlt y.1 z.1 = true := by
            intro z hz
            rcases List.mem_cons.1 hz with rfl | hz
            · exact hyx
            · exact nlt_trans hyx (srt_below hsx z hz)
          have hbel : ∀ z ∈ merge (x :: xs) ys, nlt y.1 z.1 = true := by
            intro z hz
            rcases (I.has z.1).1 ⟨z, hz, rfl⟩ with ⟨u, hu, e⟩ | ⟨⟨u, hu, e⟩, _⟩
            · rw [← e]; exact hall u hu
            · rw [← e]; exact srt_below hsy u hu
          have hyn : ¬ has ys y.1 := not_has (srt_below hsy)
          have hxn : ¬ has (x :: xs) y.1 := not_has hall
          simp only [if_true]
          by_cases hp : 0 < y.2
          · rw [if_pos hp]
            refine ⟨List.Pairwise.cons hbel I.srt, fun nm => ?_, fun z hz => ?_⟩
            · rw [has_cons, I.has, has_cons y, val_cons]
              by_cases e : y.1 = nm
              · simp [e, hp]
              · simp [e]
            · rcases List.mem_cons.1 hz with rfl | hz
              · rw [val_cons z, if_pos rfl, val_not hxn]; omega
              · rw [I.val z hz, val_cons y, if_neg (nlt_ne (hbel z hz))]
          · rw [if_neg hp]
            refine ⟨I.srt, fun nm => ?_, fun z hz => ?_⟩
            · rw [I.has, has_cons y, val_cons y]
              by_cases e : y.1 = nm
              · subst e; simp [hp, hyn]
              · simp [e]
            · rw [I.val z hz, val_cons y, if_neg (nlt_ne (hbel z hz))]
        | false =>
          have exy : x.1 = y.1 := nlt_tri hxy hyx
          have I := ih xs ys (by simp at hl ⊢; omega) (srt_tail hsx) (srt_tail hsy) hnx' hny'
          have hbel : ∀ z ∈ merge xs ys, nlt x.1 z.1 = true := by
            intro z hz
            rcases (I.has z.1).1 ⟨z, hz, rfl⟩ with ⟨u, hu, e⟩ | ⟨⟨u, hu, e⟩, _⟩
            · rw [← e]; exact srt_below hsx u hu
            · rw [← e, exy]; exact srt_below hsy u hu
          simp only [Bool.false_eq_true, if_false]
          refine ⟨List.Pairwise.cons hbel I.srt, fun nm => ?_, fun z hz => ?_⟩
          · rw [has_cons, has_cons x, has_cons y, I.has, val_cons y]
            by_cases e : y.1 = nm
            · simp [e, exy]
            · simp [e, exy]
          · rcases List.mem_cons.1 hz with rfl | hz
            · simp only [val_cons, exy, if_true]
            · have hne := nlt_ne (hbel z hz)
              rw [I.val z hz, val_cons x, if_neg hne, val_cons y, if_neg (fun e => hne (exy.trans e))]

/-! ### Leq -/
def LE (xs ys : List El) : Prop := ∀ x ∈ xs, 0 < x.2 → ∃ y ∈ ys, y.1 = x.1 ∧ x.2 ≤ y.2
theorem dropLt_spec (nm : ByteArray) : ∀ (us : List El), Srt us → ∃ pre, us = pre ++ dropLt us nm ∧ (∀ z ∈ pre, nlt z.1 nm = true) ∧ (∀ z ∈ (dropLt us nm).head?, nlt z.1 nm = false)
  | [], _ => ⟨[], rfl, by simp, by simp [dropLt]⟩
  | u :: us, h => by
    cases hu : nlt u.1 nm with
    | true =>
      obtain ⟨pre, h1, h2, h3⟩ := dropLt_spec nm us (srt_tail h)
      have e : dropLt (u :: us) nm = dropLt us nm := by
        show List.dropWhile _ (u :: us) = _
        rw [List.dropWhile_cons_of_pos (by simpa using hu)]; rfl
      refine ⟨u :: pre, by rw [e, List.cons_append, ← h1], ?_, by rw [e]; exact h3⟩
      intro z hz
      rcases List.mem_cons.1 hz with rfl | hz
      · exact hu
      · exact h2 z hz
    | false =>
      have e : dropLt (u :: us) nm = u :: us := by
        show List.dropWhile _ (u :: us) = _
        rw [List.dropWhile_cons_of_neg (by simp [hu])]
      exact ⟨[], by rw [e]; rfl, by simp, by rw [e]; simpa using hu⟩
theorem srt_drop {us : List El} (nm : ByteArray) (h : Srt us) : Srt (dropLt us nm) := h.sublist (List.dropWhile_sublist _)
theorem leq_spec : ∀ (xs us : List El), Srt xs → Srt us → (leqG xs us = true ↔ LE xs us)
  | [], us, _, _ => by simp [leqG, LE]
  | x :: xs, us, hx, hus => by
    obtain ⟨pre, h1, h2, h3⟩ := dropLt_spec x.1 us hus
    have hsd := srt_drop x.1 hus
    have ih := leq_spec xs (dropLt us x.1) (srt_tail hx) hsd
    have hmem : ∀ nm, (x.1 = nm ∨ nlt x.1 nm = true) → ∀ N : Int, (∃ y ∈ us, y.1 = nm ∧ N ≤ y.2) ↔ (∃ y ∈ dropLt us x.1, y.1 = nm ∧ N ≤ y.2) := by
      intro nm hnm N
      constructor
      · rintro ⟨y, hy, e, hN⟩
        rw [h1] at hy
        rcases List.mem_append.1 hy with hy | hy
        · have := h2 y hy
          rw [e] at this
          rcases hnm with e' | h
          · rw [e', nlt_irrefl] at this; cases this
          · rw [nlt_asymm h] at this; cases this
        · exact ⟨y, hy, e, hN⟩
      · rintro ⟨y, hy, e, hN⟩
        exact ⟨y, by rw [h1]; exact List.mem_append_right _ hy, e, hN⟩
    have hf : fails x (dropLt us x.1) = false ↔ (0 < x.2 → ∃ y ∈ dropLt us x.1, y.1 = x.1 ∧ x.2 ≤ y.2) := by
      cases hd : dropLt us x.1 with
      | nil => simp [fails]
      | cons y r =>
        rw [hd] at h3 hsd
        have hy : nlt y.1 x.1 = false := h3 y (by simp)
        constructor
        · intro hff hp
          simp only [fails, gt_iff_lt, Bool.and_eq_false_iff, decide_eq_false_iff_not, Bool.or_eq_false_iff, Bool.not_eq_eq_eq_not, Bool.not_false, decide_eq_true_eq] at hff
          rcases hff with hff | ⟨e, hle⟩
          · exact absurd hp hff
          · exact ⟨y, by simp, e, by omega⟩
        · intro hh
          simp only [fails, gt_iff_lt, Bool.and_eq_false_iff, decide_eq_false_iff_not, Bool.or_eq_false_iff, Bool.not_eq_eq_eq_not, Bool.not_false, decide_eq_true_eq]
          by_cases hp : 0 < x.2
          · obtain ⟨z, hz, e, hN⟩ := hh hp
            rcases List.mem_cons.1 hz with rfl | hz
            · exact .inr ⟨e, by omega⟩
            · have := srt_below hsd z hz
              rw [e, hy] at this; cases this
          · exact .inl hp
    have hstep : LE (x :: xs) us ↔ (0 < x.2 → ∃ y ∈ dropLt us x.1, y.1 = x.1 ∧ x.2 ≤ y.2) ∧ LE xs (dropLt us x.1) := by
      constructor
      · intro h
        refine ⟨fun hp => (hmem x.1 (.inl rfl) x.2).1 (h x List.mem_cons_self hp), fun z hz hp => ?_⟩
        exact (hmem z.1 (.inr (srt_below hx z hz)) z.2).1 (h z (List.mem_cons_of_mem _ hz) hp)
      · rintro ⟨ha, hb⟩ z hz hp
        rcases List.mem_cons.1 hz with rfl | hz
        · exact (hmem z.1 (.inl rfl) z.2).2 (ha hp)
        · exact (hmem z.1 (.inr (srt_below hx z hz)) z.2).2 (hb z hz hp)
    rw [hstep, ← hf, ← ih]
    cases hfl : fails x (dropLt us x.1) <;> simp [leqG, hfl]
theorem LE.trans {a b c : List El} (h1 : LE a b) (h2 : LE b c) : LE a c := by
  intro x hx hp
  obtain ⟨y, hy, e, hle⟩ := h1 x hx hp
  obtain ⟨z, hz, e', hle'⟩ := h2 y hy (by omega)
  exact ⟨z, hz, e'.trans e, by omega⟩
theorem LE.refl (a : List El) : LE a a := fun x hx _ => ⟨x, hx, rfl, Int.le_refl _⟩

/-- Max is the least upper bound. -/
theorem max_lub {xs ys ws : List El} (hx : Srt xs) (hy : Srt ys) (hnx : NN xs) (hny : NN ys) :
    Srt (maxG xs ys) ∧ LE xs (maxG xs ys) ∧ LE ys (maxG xs ys) ∧ (LE (maxG xs ys) ws ↔ LE xs ws ∧ LE ys ws) := by
  unfold maxG
  cases hb : leqG ys xs with
  | true =>
    have h : LE ys xs := (leq_spec ys xs hy hx).1 hb
    exact ⟨hx, LE.refl _, h, fun k => ⟨k, h.trans k⟩, fun k => k.1⟩
  | false =>
    simp only [Bool.false_eq_true, if_false]
    have M := merge_spec _ xs ys (Nat.le_refl _) hx hy hnx hny
    have up1 : LE xs (merge xs ys) := by
      intro x hxm _
      obtain ⟨z, hz, e⟩ := (M.has x.1).2 (.inl ⟨x, hxm, rfl⟩)
      refine ⟨z, hz, e, ?_⟩
      have := M.val z hz
      rw [e, val_mem hx hxm] at this
      omega
    have up2 : LE ys (merge xs ys) := by
      intro y hym hp
      obtain ⟨z, hz, e⟩ := (M.has y.1).2 (.inr ⟨⟨y, hym, rfl⟩, by rw [val_mem hy hym]; exact hp⟩)
      refine ⟨z, hz, e, ?_⟩
      have := M.val z hz
      rw [e, val_mem hy hym] at this
      omega
    refine ⟨M.srt, up1, up2, fun k => ⟨up1.trans k, up2.trans k⟩, ?_⟩
    rintro ⟨k1, k2⟩ z hz hp
    have hv := M.val z hz
    have n1 := val_nn hnx z.1
    have n2 := val_nn hny z.1
    by_cases hc : val ys z.1 ≤ val xs z.1
    · have hv' : z.2 = val xs z.1 := by omega
      by_cases hh : has xs z.1
      · obtain ⟨x, hxm, e⟩ := hh
        have e2 : x.2 = z.2 := by rw [hv', ← e, val_mem hx hxm]
        obtain ⟨u, hu, e3, hle⟩ := k1 x hxm (by omega)
        exact ⟨u, hu, e3.trans e, by omega⟩
      · rw [val_not hh] at hv'; omega
    · have hv' : z.2 = val ys z.1 := by omega
      by_cases hh : has ys z.1
      · obtain ⟨y, hym, e⟩ := hh
        have e2 : y.2 = z.2 := by rw [hv', ← e, val_mem hy hym]
        obtain ⟨u, hu, e3, hle⟩ := k2 y hym (by omega)
        exact ⟨u, hu, e3.trans e, by omega⟩
      · rw [val_not hh] at hv'; omega
theorem maxG_length (xs ys : List El) : (maxG xs ys).length ≤ xs.length + ys.length := by
  have key : ∀ (n : Nat) (xs ys : List El), (mergeF n xs ys).length ≤ xs.length + ys.length := by
    intro n
    induction n with
    | zero => intro xs ys; simp [mergeF]
    | succ n ih =>
      intro xs ys
      match xs, ys with
      | [], [] => simp [mergeF]
      | x :: xs, [] => have := ih xs []; simp [mergeF] at this ⊢; omega
      | [], y :: ys => have := ih [] ys; simp only [mergeF]; split <;> simp at this ⊢ <;> omega
      | x :: xs, y :: ys =>
        have h1 := ih xs (y :: ys); have h2 := ih (x :: xs) ys; have h3 := ih xs ys
        simp only [mergeF]
        split
        · simp at h1 ⊢; omega
        · split
          · split <;> simp at h2 ⊢ <;> omega
          · simp at h3 ⊢; omega
  unfold maxG
  split
  · omega
  · exact key _ xs ys
end Go.Lx
