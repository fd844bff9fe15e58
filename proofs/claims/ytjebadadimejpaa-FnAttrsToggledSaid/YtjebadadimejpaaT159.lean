/- The opening of a list of attributes. -/
import Derived.Test.YtjebadadimejpaaT18
namespace Go.Proofs.Ytjebadadimejpaa
open Go.ChangeShapes Go.WideShapes Go.Deep Go.RowKit
set_option linter.unusedVariables false

theorem open_attrs2 {H : Type} {enc : TypeId × Value → H} {w : World} {base : Nat} {spare : Nat → Bool} {held : Bool} {a : Option Addr} {len cap : Nat} {d : DataW H} {p : List MemPlace} (h : DataW.Trod enc Try.prog w base spare held 22 (.slice a len cap) d p) :
    ∃ l : List At2, ASl w w.heap.size a l ∧ len = l.length := by
  obtain ⟨fuel, h⟩ := h
  obtain ⟨aa, ac, l, hv, hl⟩ := open_attrs (v := .slice a len cap) h
  cases hv
  exact ⟨l, hl, rfl⟩
end Go.Proofs.Ytjebadadimejpaa
