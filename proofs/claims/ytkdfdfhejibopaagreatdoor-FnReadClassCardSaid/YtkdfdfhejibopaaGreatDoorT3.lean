/- The reference's looks at a text: they return, whatever the text. -/
import Derived.Test.YtkdfdfhejibopaaGreatDoorT2
namespace Go.Proofs.YtkdfdfhejibopaaGreatDoor
open Go.RowKit
set_option linter.unusedVariables false

/-- The call returns some truth value, and nothing has turned. -/
def AnyB (w : World) (e : Ending) (w' : World) : Prop := ∃ b, e = .returned (.bool b) ∧ w = w'

theorem wrap_byte (b : UInt8) : wrap64 (b.toNat : Int) = (b.toNat : Int) := by
  have := b.toNat_lt
  exact IntWalk.wrap64_in _ ⟨by omega, by omega⟩

/-- A code point and how many bytes it has: none, or as many as are there. -/
def AnyP (s : ByteArray) (k : Nat) (w : World) (e : Ending) (w' : World) : Prop :=
  ∃ (p : Int) (n : Nat), e = .returned (.tuple #[.int .i64 p, .int .i64 n]) ∧ k + n ≤ s.size ∧ w = w'


end Go.Proofs.YtkdfdfhejibopaaGreatDoor
