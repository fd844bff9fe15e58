/- An argument of numbers, and its capacity. -/
import Derived.Test.YtgilbckfkngaiaaT25
namespace Go.Proofs.Ytgilbckfkngaiaa
open Go.RowKit
set_option linter.unusedVariables false

open Go.WideShapes Go.Deep in
/-- An argument of numbers, and its capacity. -/
theorem open_ints_c {H : Type} {enc : TypeId × Value → H} {w : World} {base : Nat} {spare : Nat → Bool} {held : Bool} {a : Option Addr} {len cap : Nat} {d : DataW H} {p : List MemPlace} (h : DataW.Trod enc Try.prog w base spare held 37 (.slice a len cap) d p) :
    ∃ l : List Int, ISl w w.heap.size a l ∧ len = l.length ∧ len ≤ cap := by
  obtain ⟨l, h1, h2⟩ := open_ints h
  refine ⟨l, h1, h2, ?_⟩
  obtain ⟨fuel, h⟩ := h
  rcases open_slice Try.underlying37 h with ⟨hcs, _⟩ | ⟨a', len', cap', m, n, D, Pl, hcs, _, hl, _⟩
  · simp [Value.cells] at hcs
    omega
  · simp [Value.cells] at hcs
    obtain ⟨_, h3, h4⟩ := hcs
    omega
end Go.Proofs.Ytgilbckfkngaiaa
