/- grep, NotFunction, FilterFunction. -/
import Derived.Test.YtgilbckfkngaiaaT36
namespace Go.Proofs.Ytgilbckfkngaiaa
open Go.RowKit
set_option linter.unusedVariables false

def SinglePost (p : Addr) (doc : Option Addr) (w : World) (e : Ending) (w' : World) : Prop :=
  ∃ g gn, e = .returned (.pointer (some ⟨g, 0, none⟩)) ∧ SelB w' g (some ⟨gn, 0, none⟩) 1 1 doc none ∧ w.heap.size ≤ g ∧ w.heap.size ≤ gn ∧ w'.ownsRow w.heap.size 75 1 (.slice (some ⟨gn, 0, none⟩) 1 1) 1 [.pointer (some p)] ∧ Below w.heap.size w w'

set_option maxRecDepth 100000 in
set_option maxHeartbeats 1000000 in
theorem single_any (p : Addr) (doc : Option Addr) (w : World) : Calls Try.prog 114 #[.pointer (some p), .pointer doc] w (SinglePost p doc w) := by
  go_enter Try.func114, Try.ntmps114
  go_wp2_with fail
  go_ret
  refine ⟨w.heap.size + 1, w.heap.size, rfl, ?_, by omega, by omega, ⟨rfl, .inr ⟨w.heap.size, 1, #[.pointer (some p)], rfl, by omega, ?_, by omega, by simp [maxLen], rfl, rfl⟩⟩, ?_⟩
  · have := heap_alloc_new (w.alloc (.cells #[.pointer (some p)] 75)) (.cells #[.slice (some ⟨w.heap.size, 0, none⟩) 1 1, .pointer doc, .pointer none] 94)
    unfold SelB
    simpa using this
  · rw [Below.heap_alloc _ _ _ (by simp)]
    exact heap_alloc_new w _
  · exact ((Below.refl _ _).alloc (Nat.le_refl _) _).alloc (by simp) _

def GrepRel (bl : Nat → Nat) (ns : List Nat) (p : Nat → Bool) (w : World) (v x : Value) (wr : World) : Prop :=
  ∃ (k : Nat) (a : Option Addr) (c : Nat), k ≤ ns.length ∧ x = .int .i64 (k : Nat) ∧ v = .slice a (pickN p (ns.take k)).length c ∧
    wr.ownsRow w.heap.size 75 1 (.slice a (pickN p (ns.take k)).length c) (pickN p (ns.take k)).length (ptrs bl (pickN p (ns.take k))) ∧ Below w.heap.size w wr

/-- A function value that answers by a list. -/
def fnV (f b : Nat) : Value := .func (.func f) #[] #[.pointer (some ⟨b, 0, none⟩)]

end Go.Proofs.Ytgilbckfkngaiaa
