/- The opening of a list of texts. -/
import Derived.Test.YtgilbckfkngaiaaT18
import Derived.Test.YtgilbckfkngaiaaT160
import Derived.Deep.Strs
namespace Go.Proofs.Ytgilbckfkngaiaa
open Go.ChangeShapes Go.WideShapes Go.Deep Go.RowKit
set_option linter.unusedVariables false

theorem open_texts {H : Type} {enc : TypeId × Value → H} {w : World} {base : Nat} {spare : Nat → Bool} {held : Bool} {a : Option Addr} {len cap : Nat} {d : DataW H} {p : List MemPlace} (h : DataW.Trod enc Try.prog w base spare held 30 (.slice a len cap) d p) :
    ∃ l : List ByteArray, SSl w w.heap.size a l ∧ len = l.length := by
  obtain ⟨fuel, h⟩ := h
  rcases Go.Deep.open_strs Try.underlying30 Try.underlying9 (by kernel_rfl) h with ⟨hcs, _⟩ | ⟨a', len', cap', m, Sx, hcs, _, hl, hm, hmm, hx, hi⟩
  · simp [Value.cells] at hcs
    exact ⟨[], ⟨by simp, by simp, .inl rfl⟩, by simp [hcs.2.1]⟩
  · simp [Value.cells] at hcs
    obtain ⟨rfl, rfl, rfl⟩ := hcs
    have hlm : len ≤ m := by rw [hmm]; split <;> omega
    obtain ⟨l, hll, hp⟩ := list_of len (fun i (x : ByteArray) => w.cell? (a'.add i) = some (.string x) ∧ x.size ≤ maxLen) (fun i hil => ⟨_, hi i (by omega)⟩)
    subst hll
    refine ⟨l, ⟨by omega, fun x hx => ?_, ?_⟩, rfl⟩
    · obtain ⟨i, hi2, rfl⟩ := List.getElem_of_mem hx
      exact (hp i hi2).2
    · rcases Nat.eq_zero_or_pos l.length with h0 | h0
      · exact .inl (List.eq_nil_of_length_eq_zero h0)
      · obtain ⟨b, o, rfl, hb⟩ := addr_plain (k := 0) (by have := (hp 0 h0).1; exact this)
        refine .inr ⟨b, o, rfl, hb, fun i hi2 => ?_⟩
        have q0 := (hp i hi2).1
        rw [Addr.add_lit] at q0
        exact q0
end Go.Proofs.Ytgilbckfkngaiaa
