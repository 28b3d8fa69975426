/-
  The types of this seat's program, as tables: written by a script of this seat off the dump's rows; the kernel holds them against the loaded program.
-/
import Derived.Test.Qxb6603068aMore
import Derived.Test.Qxb6603068aProg
import Derived.KernelRfl
namespace Go.Lx
open Go.Proofs

def memN : List Nat → Nat → Bool
  | [], _ => false
  | x :: l, t => bif Nat.beq x t then true else memN l t
theorem memN_mem : ∀ {l : List Nat} {t : Nat}, memN l t = true → t ∈ l
  | [], t, h => by simp [memN] at h
  | x :: l, t, h => by
    simp only [memN] at h
    by_cases e : Nat.beq x t = true
    · rw [Nat.eq_of_beq_eq_true e]; exact List.mem_cons_self
    · rw [Bool.not_eq_true] at e; rw [e] at h; exact List.mem_cons_of_mem _ (memN_mem h)
def find2 : List (Nat × Nat) → Nat → Option Nat
  | [], _ => none
  | (x, y) :: l, t => bif Nat.beq x t then some y else find2 l t
theorem find2_mem : ∀ {l : List (Nat × Nat)} {t y : Nat}, find2 l t = some y → (t, y) ∈ l
  | [], t, y, h => by simp [find2] at h
  | (x, z) :: l, t, y, h => by
    simp only [find2] at h
    by_cases e : Nat.beq x t = true
    · rw [e] at h; rw [Nat.eq_of_beq_eq_true e]; simp only [cond_true, Option.some.injEq] at h; rw [h]; exact List.mem_cons_self
    · rw [Bool.not_eq_true] at e; rw [e] at h; exact List.mem_cons_of_mem _ (find2_mem h)
def find3 : List (Nat × Nat × Nat) → Nat → Option (Nat × Nat)
  | [], _ => none
  | (x, y) :: l, t => bif Nat.beq x t then some y else find3 l t
theorem find3_mem : ∀ {l : List (Nat × Nat × Nat)} {t : Nat} {y : Nat × Nat}, find3 l t = some y → (t, y) ∈ l
  | [], t, y, h => by simp [find3] at h
  | (x, z) :: l, t, y, h => by
    simp only [find3] at h
    by_cases e : Nat.beq x t = true
    · rw [e] at h; rw [Nat.eq_of_beq_eq_true e]; simp only [cond_true, Option.some.injEq] at h; rw [h]; exact List.mem_cons_self
    · rw [Bool.not_eq_true] at e; rw [e] at h; exact List.mem_cons_of_mem _ (find3_mem h)
def find4 : List (Nat × Nat × Nat × Nat) → Nat → Option (Nat × Nat × Nat)
  | [], _ => none
  | (x, y) :: l, t => bif Nat.beq x t then some y else find4 l t
theorem find4_mem : ∀ {l : List (Nat × Nat × Nat × Nat)} {t : Nat} {y : Nat × Nat × Nat}, find4 l t = some y → (t, y) ∈ l
  | [], t, y, h => by simp [find4] at h
  | (x, z) :: l, t, y, h => by
    simp only [find4] at h
    by_cases e : Nat.beq x t = true
    · rw [e] at h; rw [Nat.eq_of_beq_eq_true e]; simp only [cond_true, Option.some.injEq] at h; rw [h]; exact List.mem_cons_self
    · rw [Bool.not_eq_true] at e; rw [e] at h; exact List.mem_cons_of_mem _ (find4_mem h)
/-- Two numbers to one: a struct and a field to the offset. -/
def findF : List (Nat × Nat × Nat) → Nat → Nat → Option Nat
  | [], _, _ => none
  | (x, y, z) :: l, t, f => bif Nat.beq x t && Nat.beq y f then some z else findF l t f
theorem findF_mem : ∀ {l : List (Nat × Nat × Nat)} {t f z : Nat}, findF l t f = some z → (t, f, z) ∈ l
  | [], t, f, z, h => by simp [findF] at h
  | (x, y, u) :: l, t, f, z, h => by
    simp only [findF] at h
    by_cases e : (Nat.beq x t && Nat.beq y f) = true
    · rw [e] at h; rw [Bool.and_eq_true] at e; rw [Nat.eq_of_beq_eq_true e.1, Nat.eq_of_beq_eq_true e.2]; simp only [cond_true, Option.some.injEq] at h; rw [h]; exact List.mem_cons_self
    · rw [Bool.not_eq_true] at e; rw [e] at h; exact List.mem_cons_of_mem _ (findF_mem h)

def sizeIs (P : Program) (t k : Nat) : Bool := ((P.info? t).map (·.size)).any (Nat.beq · k)
theorem sizeIs_run {P : Program} {t k : Nat} (h : sizeIs P t k = true) : (P.info? t).map (·.size) = some k := by
  unfold sizeIs at h
  cases hi : (P.info? t).map (·.size) with
  | none => simp [hi] at h
  | some m => simp only [hi, Option.any_some] at h; rw [Nat.eq_of_beq_eq_true h]
def aggIs (P : Program) (t : Nat) (c : Bool) : Bool := (aggU P t).any (· == c)
theorem aggIs_run {P : Program} {t : Nat} {c : Bool} (h : aggIs P t c = true) : aggU P t = some c := by
  unfold aggIs at h
  cases hi : aggU P t with
  | none => simp [hi] at h
  | some m => simp [hi] at h; rw [h]
def plainL : List Nat := [2, 3, 4, 5, 6, 9, 10, 11, 12, 15, 16, 17, 21, 22, 23, 24, 25, 26, 36, 39, 42, 48, 50, 58, 61, 66, 74, 75, 77, 78, 79]
theorem plain_ok : plainL.all (fun t => aggIs Try.prog t false && sizeIs Try.prog t 1) = true := by kernel_rfl
theorem tyP {t : Nat} (h : memN plainL t = true) : PlainTy Try.prog t := by
  have := List.all_eq_true.1 plain_ok t (memN_mem h)
  rw [Bool.and_eq_true] at this
  exact PlainTy.of (aggIs_run this.1) (sizeIs_run this.2)
def aggL : List (Nat × Nat) := [(7, 4), (8, 4), (13, 2), (14, 2), (18, 1), (19, 1), (29, 512), (33, 4), (34, 4), (37, 6), (40, 512), (41, 3072), (46, 6), (52, 256), (53, 256), (59, 3), (60, 3), (62, 3), (63, 3), (68, 4), (69, 4), (70, 0), (71, 0), (72, 0), (80, 11), (81, 11)]
theorem agg_ok : aggL.all (fun p => aggIs Try.prog p.1 true && sizeIs Try.prog p.1 p.2) = true := by kernel_rfl
theorem tyA {t k : Nat} (h : find2 aggL t = some k) : AggTy Try.prog t k := by
  have := List.all_eq_true.1 agg_ok (t, k) (find2_mem h)
  rw [Bool.and_eq_true] at this
  exact AggTy.of (aggIs_run this.1) (sizeIs_run this.2)
def slL : List (Nat × Nat × Nat) := [(22, 29, 512), (23, 5, 1), (26, 42, 1), (66, 40, 512)]
def slIs (P : Program) (t e : Nat) : Bool := match P.underlying t with | some (.slice e') => Nat.beq e' e | _ => false
theorem slIs_run {P : Program} {t e : Nat} (h : slIs P t e = true) : P.underlying t = some (.slice e) := by
  unfold slIs at h
  split at h
  · rename_i e' he; rw [he, Nat.eq_of_beq_eq_true h]
  · simp at h
theorem sl_ok : slL.all (fun p => slIs Try.prog p.1 p.2.1 && sizeIs Try.prog p.2.1 p.2.2) = true := by kernel_rfl
theorem tyS {t e k : Nat} (h : find3 slL t = some (e, k)) : SliceTy Try.prog t e k := by
  have := List.all_eq_true.1 sl_ok (t, e, k) (find3_mem h)
  rw [Bool.and_eq_true] at this
  exact ⟨slIs_run this.1, run_size (sizeIs_run this.2)⟩
def arrL : List (Nat × Nat × Nat × Nat) := [(29, 512, 5, 1), (37, 6, 3, 1), (40, 512, 39, 1), (41, 6, 40, 512), (46, 6, 5, 1), (52, 256, 5, 1), (53, 256, 3, 1), (70, 0, 16, 1)]
def arrIs (P : Program) (t m e : Nat) : Bool := match P.underlying t with | some (.array m' e') => Nat.beq m' m && Nat.beq e' e | _ => false
theorem arrIs_run {P : Program} {t m e : Nat} (h : arrIs P t m e = true) : P.underlying t = some (.array m e) := by
  unfold arrIs at h
  split at h
  · rename_i m' e' he; rw [Bool.and_eq_true] at h; rw [he, Nat.eq_of_beq_eq_true h.1, Nat.eq_of_beq_eq_true h.2]
  · simp at h
theorem arr_ok : arrL.all (fun p => arrIs Try.prog p.1 p.2.1 p.2.2.1 && sizeIs Try.prog p.2.2.1 p.2.2.2) = true := by kernel_rfl
theorem tyR {t m e k : Nat} (h : find4 arrL t = some (m, e, k)) : ArrTy Try.prog t m e k := by
  have := List.all_eq_true.1 arr_ok (t, m, e, k) (find4_mem h)
  rw [Bool.and_eq_true] at this
  exact ⟨arrIs_run this.1, run_size (sizeIs_run this.2)⟩
def fieldL : List (Nat × Nat × Nat) := [(7, 0, 0), (7, 1, 1), (7, 2, 2), (7, 3, 3), (8, 0, 0), (8, 1, 1), (8, 2, 2), (8, 3, 3), (13, 0, 0), (13, 1, 1), (14, 0, 0), (14, 1, 1), (18, 0, 0), (19, 0, 0), (33, 0, 0), (33, 1, 1), (33, 2, 2), (33, 3, 3), (34, 0, 0), (34, 1, 1), (34, 2, 2), (34, 3, 3), (59, 0, 0), (59, 1, 1), (59, 2, 2), (60, 0, 0), (60, 1, 1), (60, 2, 2), (62, 0, 0), (62, 1, 1), (62, 2, 2), (63, 0, 0), (63, 1, 1), (63, 2, 2), (68, 0, 0), (68, 1, 1), (68, 2, 2), (68, 3, 3), (69, 0, 0), (69, 1, 1), (69, 2, 2), (69, 3, 3), (80, 0, 0), (80, 1, 1), (80, 2, 2), (80, 3, 3), (80, 4, 4), (80, 5, 5), (80, 6, 6), (80, 8, 8), (80, 9, 9), (80, 10, 10), (81, 0, 0), (81, 1, 1), (81, 2, 2), (81, 3, 3), (81, 4, 4), (81, 5, 5), (81, 6, 6), (81, 8, 8), (81, 9, 9), (81, 10, 10)]
def fieldIs (P : Program) (s f off : Nat) : Bool := match P.underlying s with
  | some (.struct fs) => match fs[f]? with
    | some fd => Nat.beq fd.offset off && ((P.info? fd.type).map (·.size)).any (0 < ·)
    | none => false
  | _ => false
theorem field_ok : fieldL.all (fun p => fieldIs Try.prog p.1 p.2.1 p.2.2) = true := by kernel_rfl
theorem tyF {s f off : Nat} (h : findF fieldL s f = some off) : FieldTy Try.prog s f off := by
  have := List.all_eq_true.1 field_ok (s, f, off) (findF_mem h)
  unfold fieldIs at this
  split at this
  · rename_i fs hs
    split at this
    · rename_i fd hf
      rw [Bool.and_eq_true] at this
      exact FieldTy.of hs hf (Nat.eq_of_beq_eq_true this.1) this.2
    · simp at this
  · simp at this
def kindOf : Nat → IntKind
  | 0 => .i8 | 1 => .i16 | 2 => .i32 | 3 => .i64 | 4 => .u8 | 5 => .u16 | 6 => .u32 | _ => .u64
def intL : List (Nat × Nat) := [(2, 3), (3, 3), (5, 4), (6, 4), (12, 7), (21, 2), (24, 7), (25, 7), (39, 6), (42, 5), (74, 4), (75, 4), (78, 2), (79, 2)]
def findI : List (Nat × Nat) → Nat → Option IntKind
  | [], _ => none
  | (x, y) :: l, t => bif Nat.beq x t then some (kindOf y) else findI l t
theorem findI_mem : ∀ {l : List (Nat × Nat)} {t : Nat} {k : IntKind}, findI l t = some k → ∃ y, (t, y) ∈ l ∧ kindOf y = k
  | [], t, y, h => by simp [findI] at h
  | (x, z) :: l, t, y, h => by
    simp only [findI] at h
    by_cases e : Nat.beq x t = true
    · rw [e] at h; simp only [cond_true, Option.some.injEq] at h; exact ⟨z, by rw [Nat.eq_of_beq_eq_true e]; exact List.mem_cons_self, h⟩
    · rw [Bool.not_eq_true] at e; rw [e] at h; obtain ⟨y', h1, h2⟩ := findI_mem h; exact ⟨y', List.mem_cons_of_mem _ h1, h2⟩
def intIs (P : Program) (t : Nat) (k : IntKind) : Bool := match P.underlying t with | some (.int k') => decide (k' = k) | _ => false
theorem int_ok : intL.all (fun p => intIs Try.prog p.1 (kindOf p.2)) = true := by kernel_rfl
theorem tyI {t : Nat} {k : IntKind} (h : findI intL t = some k) : IntTy Try.prog t k := by
  obtain ⟨y, h1, h2⟩ := findI_mem h
  have := List.all_eq_true.1 int_ok (t, y) h1
  unfold intIs at this
  split at this
  · rename_i k' hk; rw [decide_eq_true_eq] at this; exact ⟨by rw [hk, this, h2]⟩
  · simp at this
theorem und9 : Try.prog.underlying 9 = some .string := by kernel_rfl
theorem und10 : Try.prog.underlying 10 = some .string := by kernel_rfl
theorem und11 : Try.prog.underlying 11 = some .string := by kernel_rfl
theorem und4 : Try.prog.underlying 4 = some .bool := by kernel_rfl
theorem mixed : Try.prog.follows .mixedOrders = true := by kernel_rfl
def fnIs (P : Program) (f : Nat) : Bool := match P.funcs[f]? with | some fn => !(fn.name == "runtime.NumGoroutine") && !fn.body.isNone | none => false
def fnL : List Nat := [3, 4, 5, 6, 7, 8, 9, 10, 11, 12, 13, 14, 15, 16, 17, 18, 19, 20, 21, 22, 23, 24, 25, 26, 27, 28, 29, 30]
theorem fn_ok : fnL.all (fun f => fnIs Try.prog f) = true := by kernel_rfl
theorem fnT {f : Nat} (h : memN fnL f = true) : FnOk Try.prog f := by
  have := List.all_eq_true.1 fn_ok f (memN_mem h)
  unfold fnIs at this
  split at this
  · rename_i fn hf
    rw [Bool.and_eq_true] at this
    exact FnOk.of hf (by simpa using this.1) (by simpa using this.2)
  · simp at this
end Go.Lx
