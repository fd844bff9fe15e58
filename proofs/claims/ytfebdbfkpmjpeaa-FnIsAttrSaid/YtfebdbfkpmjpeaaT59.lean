/- White space, rune by rune. -/
import Derived.Test.YtfebdbfkpmjpeaaT3
import Derived.Lib.DecodeN
import Derived.Lib.TrimU
namespace Go.Proofs.Ytfebdbfkpmjpeaa
open Go.RowKit
set_option linter.unusedVariables false

/-- White space (what the reference and the program name so). -/
def isSp (r : Nat) : Bool := (decide (9 ≤ r) && decide (r ≤ 13)) || r == 32 || r == 133 || r == 160 || r == 5760 || (decide (8192 ≤ r) && decide (r ≤ 8202)) || r == 8232 || r == 8233 || r == 8239 || r == 8287 || r == 12288

/-- From a place on there is nothing but white space. -/
inductive Sp (s : ByteArray) : Nat → Prop
  | fin (k : Nat) : s.size ≤ k → Sp s k
  | step (k : Nat) : k < s.size → isSp (Utf8.decode s k).1 = true → Sp s (k + (Utf8.decode s k).2) → Sp s k

/-- Up to a place there is nothing but white space. -/
inductive Pre (s : ByteArray) : Nat → Prop
  | zero : Pre s 0
  | step (k : Nat) : Pre s k → k < s.size → isSp (Utf8.decode s k).1 = true → Pre s (k + (Utf8.decode s k).2)

theorem Pre.sp {s : ByteArray} {k : Nat} (h : Pre s k) : Sp s k → Sp s 0 := by
  induction h with
  | zero => exact id
  | step k _ hk hr ih => exact fun q => ih (.step k hk hr q)

theorem Sp.at_ {s : ByteArray} {k : Nat} (h : Sp s k) (hk : k < s.size) : isSp (Utf8.decode s k).1 = true ∧ Sp s (k + (Utf8.decode s k).2) := by
  cases h with
  | fin _ h => omega
  | step _ _ h1 h2 => exact ⟨h1, h2⟩
end Go.Proofs.Ytfebdbfkpmjpeaa
