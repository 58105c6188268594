import Derived.Test.Qxb6619851aOpen
namespace Go.Proofs.Qxb6619851a
open Go.ChangeShapes Go.WideShapes Go.ChangeAt Go.RowKit

/-- An id that came in by value. -/
theorem id_open {H : Type} {enc : TypeId × Value → H} {W : World} {base b0 : Nat} {spare : Nat → Bool} {held : Bool} {r : Reach} {v : Value} {d : DataW H} {p : List MemPlace}
    (hv : Value.okWide Try.prog W r b0 23 v) (h : DataW.Trod enc Try.prog W base spare held 23 v d p) : ∃ x : List UInt8, v = .agg (idV x) ∧ x.length = 32 := by
  obtain ⟨cs, rfl, _⟩ : ∃ cs, v = .agg cs ∧ True := by
    simp only [Value.okWide, Try.underlying23] at hv
    obtain ⟨cs, h1, _⟩ := hv
    exact ⟨cs, h1, trivial⟩
  obtain ⟨fuel, hf⟩ := h
  obtain ⟨x, hx, hcs⟩ := id_of_cells hf
  refine ⟨x, ?_, hx⟩
  simp only [Value.cells] at hcs
  unfold idV
  rw [← hcs]
end Go.Proofs.Qxb6619851a
