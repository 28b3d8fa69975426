import Derived.Test.Qxb6603068aO1
import Derived.Test.Qxb6603068aS7
namespace Go.Proofs.Qxb6603068a
open Go.ChangeShapes Go.WideShapes Go.ChangeAt Go.RowKit Go.Lx

theorem c52 : Try.prog.cellsOf 52 = 256 := by kernel_rfl
/-- A pointer to an array of 256 bytes that came in. -/
theorem open_seq {H : Type} {enc : TypeId × Value → H} {W : World} {r : Reach} {b0 : Nat} {v : Value} {d : DataW H} {ps : List MemPlace} (hval : Value.okWide Try.prog W r b0 50 v)
    (hd : DataW.Trod enc Try.prog W 0 (fun _ => true) true 50 v d ps) : ∃ sq : Nat → Int, SeqP W v sq ∧ ∀ c, c < 256 → 0 ≤ sq c ∧ sq c < 256 := by
  rcases ChangeShapes.open_ptr Try.underlying50 (by rw [c52]; omega) hval hd with ⟨h, _⟩ | ⟨b, off, cs, y, fuel, rfl, _, _, hl, hcell, hy⟩
  · exact ⟨fun _ => 0, .inl h, fun _ _ => by simp⟩
  · rw [c52] at hcell
    obtain ⟨_, f, hf⟩ := open_bytes Try.underlying52 c52 hy
    exact ⟨f, .inr ⟨b, off, rfl, fun c hc => by rw [hcell c hc]; exact (hf c hc).1⟩, fun c hc => (hf c hc).2⟩
end Go.Proofs.Qxb6603068a
