/-
  The types of this seat's program, as tables: written by a script of this seat off the dump's rows; the kernel holds them against the loaded program.
-/
import Derived.Test.Qxb6602828aMore
import Derived.Test.Qxb6602828aProg
import Derived.KernelRfl
namespace Go.Lx
open Go.Proofs

def memN : List Nat → Nat → Bool
  | [], _ => false
  | x :: l, t => bif Nat.beq x t then true else memN l t
theorem memN_mem : ∀ {l : List Nat} {t : Nat}, memN l t = true → t ∈ l
  | [], t, h => by simp [memN] at h
  | x :: l, t, h => by
    simp only [memN] at h
    by_cases e : Nat.beq x t = true
    · rw [Nat.eq_of_beq_eq_true e]; exact List.mem_cons_self
    · rw [Bool.not_eq_true] at e; rw [e] at h; exact List.mem_cons_of_mem _ (memN_mem h)
def find2 : List (Nat × Nat) → Nat → Option Nat
  | [], _ => none
  | (x, y) :: l, t => bif Nat.beq x t then some y else find2 l t
theorem find2_mem : ∀ {l : List (Nat × Nat)} {t y : Nat}, find2 l t = some y → (t, y) ∈ l
  | [], t, y, h => by simp [find2] at h
  | (x, z) :: l, t, y, h => by
    simp only [find2] at h
    by_cases e : Nat.beq x t = true
    · rw [e] at h; rw [Nat.eq_of_beq_eq_true e]; simp only [cond_true, Option.some.injEq] at h; rw [h]; exact List.mem_cons_self
    · rw [Bool.not_eq_true] at e; rw [e] at h; exact List.mem_cons_of_mem _ (find2_mem h)
def find3 : List (Nat × Nat × Nat) → Nat → Option (Nat × Nat)
  | [], _ => none
  | (x, y) :: l, t => bif Nat.beq x t then some y else find3 l t
theorem find3_mem : ∀ {l : List (Nat × Nat × Nat)} {t : Nat} {y : Nat × Nat}, find3 l t = some y → (t, y) ∈ l
  | [], t, y, h => by simp [find3] at h
  | (x, z) :: l, t, y, h => by
    simp only [find3] at h
    by_cases e : Nat.beq x t = true
    · rw [e] at h; rw [Nat.eq_of_beq_eq_true e]; simp only [cond_true, Option.some.injEq] at h; rw [h]; exact List.mem_cons_self
    · rw [Bool.not_eq_true] at e; rw [e] at h; exact List.mem_cons_of_mem _ (find3_mem h)
def find4 : List (Nat × Nat × Nat × Nat) → Nat → Option (Nat × Nat × Nat)
  | [], _ => none
  | (x, y) :: l, t => bif Nat.beq x t then some y else find4 l t
theorem find4_mem : ∀ {l : List (Nat × Nat × Nat × Nat)} {t : Nat} {y : Nat × Nat × Nat}, find4 l t = some y → (t, y) ∈ l
  | [], t, y, h => by simp [find4] at h
  | (x, z) :: l, t, y, h => by
    simp only [find4] at h
    by_cases e : Nat.beq x t = true
    · rw [e] at h; rw [Nat.eq_of_beq_eq_true e]; simp only [cond_true, Option.some.injEq] at h; rw [h]; exact List.mem_cons_self
    · rw [Bool.not_eq_true] at e; rw [e] at h; exact List.mem_cons_of_mem _ (find4_mem h)
/-- Two numbers to one: a struct and a field to the offset. -/
def findF : List (Nat × Nat × Nat) → Nat → Nat → Option Nat
  | [], _, _ => none
  | (x, y, z) :: l, t, f => bif Nat.beq x t && Nat.beq y f then some z else findF l t f
theorem findF_mem : ∀ {l : List (Nat × Nat × Nat)} {t f z : Nat}, findF l t f = some z → (t, f, z) ∈ l
  | [], t, f, z, h => by simp [findF] at h
  | (x, y, u) :: l, t, f, z, h => by
    simp only [findF] at h
    by_cases e : (Nat.beq x t && Nat.beq y f) = true
    · rw [e] at h; rw [Bool.and_eq_true] at e; rw [Nat.eq_of_beq_eq_true e.1, Nat.eq_of_beq_eq_true e.2]; simp only [cond_true, Option.some.injEq] at h; rw [h]; exact List.mem_cons_self
    · rw [Bool.not_eq_true] at e; rw [e] at h; exact List.mem_cons_of_mem _ (findF_mem h)

def sizeIs (P : Program) (t k : Nat) : Bool := ((P.info? t).map (·.size)).any (Nat.beq · k)
theorem sizeIs_run {P : Program} {t k : Nat} (h : sizeIs P t k = true) : (P.info? t).map (·.size) = some k := by
  unfold sizeIs at h
  cases hi : (P.info? t).map (·.size) with
  | none => simp [hi] at h
  | some m => simp only [hi, Option.any_some] at h; rw [Nat.eq_of_beq_eq_true h]
def aggIs (P : Program) (t : Nat) (c : Bool) : Bool := (aggU P t).any (· == c)
theorem aggIs_run {P : Program} {t : Nat} {c : Bool} (h : aggIs P t c = true) : aggU P t = some c := by
  unfold aggIs at h
  cases hi : aggU P t with
  | none => simp [hi] at h
  | some m => simp [hi] at h; rw [h]
def plainL : List Nat := [2, 3, 4, 5, 6, 9, 10, 11, 12, 15, 16, 17, 21, 22, 26, 27, 30, 40, 44, 45, 47, 49, 51, 53, 54, 65, 84, 96, 97, 98, 100, 101, 102, 108]
theorem plain_ok : plainL.all (fun t => aggIs Try.prog t false && sizeIs Try.prog t 1) = true := by kernel_rfl
theorem tyP {t : Nat} (h : memN plainL t = true) : PlainTy Try.prog t := by
  have := List.all_eq_true.1 plain_ok t (memN_mem h)
  rw [Bool.and_eq_true] at this
  exact PlainTy.of (aggIs_run this.1) (sizeIs_run this.2)
def aggL : List (Nat × Nat) := [(7, 4), (8, 4), (13, 2), (14, 2), (18, 1), (19, 1), (31, 2), (32, 2), (36, 2), (61, 4), (62, 4), (63, 22), (64, 22), (66, 4), (67, 21), (68, 21), (73, 2), (74, 2), (87, 2), (88, 2), (90, 4), (91, 4), (92, 0), (93, 0), (94, 0), (103, 11), (104, 11)]
theorem agg_ok : aggL.all (fun p => aggIs Try.prog p.1 true && sizeIs Try.prog p.1 p.2) = true := by kernel_rfl
theorem tyA {t k : Nat} (h : find2 aggL t = some k) : AggTy Try.prog t k := by
  have := List.all_eq_true.1 agg_ok (t, k) (find2_mem h)
  rw [Bool.and_eq_true] at this
  exact AggTy.of (aggIs_run this.1) (sizeIs_run this.2)
def slL : List (Nat × Nat × Nat) := [(22, 36, 2), (26, 32, 2), (27, 32, 2), (40, 9, 1), (53, 64, 22), (54, 74, 2), (84, 88, 2), (108, 5, 1)]
def slIs (P : Program) (t e : Nat) : Bool := match P.underlying t with | some (.slice e') => Nat.beq e' e | _ => false
theorem slIs_run {P : Program} {t e : Nat} (h : slIs P t e = true) : P.underlying t = some (.slice e) := by
  unfold slIs at h
  split at h
  · rename_i e' he; rw [he, Nat.eq_of_beq_eq_true h]
  · simp at h
theorem sl_ok : slL.all (fun p => slIs Try.prog p.1 p.2.1 && sizeIs Try.prog p.2.1 p.2.2) = true := by kernel_rfl
theorem tyS {t e k : Nat} (h : find3 slL t = some (e, k)) : SliceTy Try.prog t e k := by
  have := List.all_eq_true.1 sl_ok (t, e, k) (find3_mem h)
  rw [Bool.and_eq_true] at this
  exact ⟨slIs_run this.1, run_size (sizeIs_run this.2)⟩
def arrL : List (Nat × Nat × Nat × Nat) := [(92, 0, 16, 1)]
def arrIs (P : Program) (t m e : Nat) : Bool := match P.underlying t with | some (.array m' e') => Nat.beq m' m && Nat.beq e' e | _ => false
theorem arrIs_run {P : Program} {t m e : Nat} (h : arrIs P t m e = true) : P.underlying t = some (.array m e) := by
  unfold arrIs at h
  split at h
  · rename_i m' e' he; rw [Bool.and_eq_true] at h; rw [he, Nat.eq_of_beq_eq_true h.1, Nat.eq_of_beq_eq_true h.2]
  · simp at h
theorem arr_ok : arrL.all (fun p => arrIs Try.prog p.1 p.2.1 p.2.2.1 && sizeIs Try.prog p.2.2.1 p.2.2.2) = true := by kernel_rfl
theorem tyR {t m e k : Nat} (h : find4 arrL t = some (m, e, k)) : ArrTy Try.prog t m e k := by
  have := List.all_eq_true.1 arr_ok (t, m, e, k) (find4_mem h)
  rw [Bool.and_eq_true] at this
  exact ⟨arrIs_run this.1, run_size (sizeIs_run this.2)⟩
def fieldL : List (Nat × Nat × Nat) := [(7, 0, 0), (7, 1, 1), (7, 2, 2), (7, 3, 3), (8, 0, 0), (8, 1, 1), (8, 2, 2), (8, 3, 3), (13, 0, 0), (13, 1, 1), (14, 0, 0), (14, 1, 1), (18, 0, 0), (19, 0, 0), (31, 0, 0), (31, 1, 1), (32, 0, 0), (32, 1, 1), (36, 0, 0), (36, 1, 1), (61, 0, 0), (61, 1, 1), (61, 2, 2), (61, 3, 3), (62, 0, 0), (62, 1, 1), (62, 2, 2), (62, 3, 3), (63, 0, 0), (63, 1, 1), (63, 2, 2), (63, 3, 3), (63, 4, 4), (63, 5, 5), (63, 6, 6), (63, 7, 7), (63, 8, 11), (63, 9, 15), (63, 10, 16), (63, 11, 20), (63, 12, 21), (64, 0, 0), (64, 1, 1), (64, 2, 2), (64, 3, 3), (64, 4, 4), (64, 5, 5), (64, 6, 6), (64, 7, 7), (64, 8, 11), (64, 9, 15), (64, 10, 16), (64, 11, 20), (64, 12, 21), (66, 0, 0), (66, 1, 1), (66, 2, 2), (66, 3, 3), (67, 0, 0), (67, 1, 1), (67, 2, 2), (67, 3, 3), (67, 4, 4), (67, 5, 5), (67, 6, 6), (67, 7, 10), (67, 8, 14), (67, 9, 15), (67, 10, 19), (67, 11, 20), (68, 0, 0), (68, 1, 1), (68, 2, 2), (68, 3, 3), (68, 4, 4), (68, 5, 5), (68, 6, 6), (68, 7, 10), (68, 8, 14), (68, 9, 15), (68, 10, 19), (68, 11, 20), (73, 0, 0), (73, 1, 1), (74, 0, 0), (74, 1, 1), (87, 0, 0), (87, 1, 1), (88, 0, 0), (88, 1, 1), (90, 0, 0), (90, 1, 1), (90, 2, 2), (90, 3, 3), (91, 0, 0), (91, 1, 1), (91, 2, 2), (91, 3, 3), (103, 0, 0), (103, 1, 1), (103, 2, 2), (103, 3, 3), (103, 4, 4), (103, 5, 5), (103, 6, 6), (103, 8, 8), (103, 9, 9), (103, 10, 10), (104, 0, 0), (104, 1, 1), (104, 2, 2), (104, 3, 3), (104, 4, 4), (104, 5, 5), (104, 6, 6), (104, 8, 8), (104, 9, 9), (104, 10, 10)]
def fieldIs (P : Program) (s f off : Nat) : Bool := match P.underlying s with
  | some (.struct fs) => match fs[f]? with
    | some fd => Nat.beq fd.offset off && ((P.info? fd.type).map (·.size)).any (0 < ·)
    | none => false
  | _ => false
theorem field_ok : fieldL.all (fun p => fieldIs Try.prog p.1 p.2.1 p.2.2) = true := by kernel_rfl
theorem tyF {s f off : Nat} (h : findF fieldL s f = some off) : FieldTy Try.prog s f off := by
  have := List.all_eq_true.1 field_ok (s, f, off) (findF_mem h)
  unfold fieldIs at this
  split at this
  · rename_i fs hs
    split at this
    · rename_i fd hf
      rw [Bool.and_eq_true] at this
      exact FieldTy.of hs hf (Nat.eq_of_beq_eq_true this.1) this.2
    · simp at this
  · simp at this
def kindOf : Nat → IntKind
  | 0 => .i8 | 1 => .i16 | 2 => .i32 | 3 => .i64 | 4 => .u8 | 5 => .u16 | 6 => .u32 | _ => .u64
def intL : List (Nat × Nat) := [(2, 3), (3, 3), (5, 4), (6, 4), (12, 7), (21, 2), (30, 7), (65, 4), (96, 6), (97, 4), (98, 4), (101, 2), (102, 2)]
def findI : List (Nat × Nat) → Nat → Option IntKind
  | [], _ => none
  | (x, y) :: l, t => bif Nat.beq x t then some (kindOf y) else findI l t
theorem findI_mem : ∀ {l : List (Nat × Nat)} {t : Nat} {k : IntKind}, findI l t = some k → ∃ y, (t, y) ∈ l ∧ kindOf y = k
  | [], t, y, h => by simp [findI] at h
  | (x, z) :: l, t, y, h => by
    simp only [findI] at h
    by_cases e : Nat.beq x t = true
    · rw [e] at h; simp only [cond_true, Option.some.injEq] at h; exact ⟨z, by rw [Nat.eq_of_beq_eq_true e]; exact List.mem_cons_self, h⟩
    · rw [Bool.not_eq_true] at e; rw [e] at h; obtain ⟨y', h1, h2⟩ := findI_mem h; exact ⟨y', List.mem_cons_of_mem _ h1, h2⟩
def intIs (P : Program) (t : Nat) (k : IntKind) : Bool := match P.underlying t with | some (.int k') => decide (k' = k) | _ => false
theorem int_ok : intL.all (fun p => intIs Try.prog p.1 (kindOf p.2)) = true := by kernel_rfl
theorem tyI {t : Nat} {k : IntKind} (h : findI intL t = some k) : IntTy Try.prog t k := by
  obtain ⟨y, h1, h2⟩ := findI_mem h
  have := List.all_eq_true.1 int_ok (t, y) h1
  unfold intIs at this
  split at this
  · rename_i k' hk; rw [decide_eq_true_eq] at this; exact ⟨by rw [hk, this, h2]⟩
  · simp at this
theorem und9 : Try.prog.underlying 9 = some .string := by kernel_rfl
theorem und10 : Try.prog.underlying 10 = some .string := by kernel_rfl
theorem und11 : Try.prog.underlying 11 = some .string := by kernel_rfl
theorem und4 : Try.prog.underlying 4 = some .bool := by kernel_rfl
theorem mixed : Try.prog.follows .mixedOrders = true := by kernel_rfl
def fnIs (P : Program) (f : Nat) : Bool := match P.funcs[f]? with | some fn => !(fn.name == "runtime.NumGoroutine") && !fn.body.isNone | none => false
def fnL : List Nat := [3, 4, 5, 6, 7, 8, 9, 10, 11, 12, 13, 14, 15, 16, 17, 18, 19, 20, 21, 22, 23, 24, 25, 26, 27, 28, 29, 30, 31, 32, 33, 34, 35, 36, 37, 38, 39, 40, 41, 42, 43, 44, 45, 46, 47]
theorem fn_ok : fnL.all (fun f => fnIs Try.prog f) = true := by kernel_rfl
theorem fnT {f : Nat} (h : memN fnL f = true) : FnOk Try.prog f := by
  have := List.all_eq_true.1 fn_ok f (memN_mem h)
  unfold fnIs at this
  split at this
  · rename_i fn hf
    rw [Bool.and_eq_true] at this
    exact FnOk.of hf (by simpa using this.1) (by simpa using this.2)
  · simp at this
end Go.Lx
