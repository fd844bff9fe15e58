/- FnAddOf: the walk. -/
import Derived.Test.YtgilbckfkngaiaaT25
import Derived.Test.YtgilbckfkngaiaaT40
import Derived.Test.YtgilbckfkngaiaaT43
namespace Go.Proofs.Ytgilbckfkngaiaa
open Go.RowKit
set_option linter.unusedVariables false

theorem addN_toI (ns ms : List Nat) (h1 : ns.Nodup) (h2 : ms.Nodup) : (toI (addN ns ms)).Nodup ∧ (toI (addN ns ms)).length = (onceL (toI ns ++ toI ms)).length ∧ ∀ x ∈ toI (addN ns ms), x ∈ onceL (toI ns ++ toI ms) := by
  have hm : ∀ x, x ∈ toI (addN ns ms) ↔ x ∈ onceL (toI ns ++ toI ms) := by
    intro x
    rw [onceL_mem, List.mem_append]
    unfold toI
    simp only [List.mem_map]
    constructor
    · rintro ⟨k, hk, rfl⟩
      rcases addN_mem.1 hk with h | h
      · exact .inl ⟨k, h, rfl⟩
      · exact .inr ⟨k, h, rfl⟩
    · rintro (⟨k, h, rfl⟩ | ⟨k, h, rfl⟩)
      · exact ⟨k, addN_mem.2 (.inl h), rfl⟩
      · exact ⟨k, addN_mem.2 (.inr h), rfl⟩
  have hn : (toI (addN ns ms)).Nodup := by
    unfold toI List.Nodup
    rw [List.pairwise_map]
    exact (addN_nodup h1 h2).imp (fun h e => h (by omega))
  exact ⟨hn, once_len hn (onceL_nodup _) hm, fun x hx => (hm x).1 hx⟩

open Go.WideShapes Go.Deep in
/-- An argument of numbers, and its capacity. -/
theorem open_ints_c {H : Type} {enc : TypeId × Value → H} {w : World} {base : Nat} {spare : Nat → Bool} {held : Bool} {a : Option Addr} {len cap : Nat} {d : DataW H} {p : List MemPlace} (h : DataW.Trod enc Try.prog w base spare held 37 (.slice a len cap) d p) :
    ∃ l : List Int, ISl w w.heap.size a l ∧ len = l.length ∧ len ≤ cap := by
  obtain ⟨l, h1, h2⟩ := open_ints h
  refine ⟨l, h1, h2, ?_⟩
  obtain ⟨fuel, h⟩ := h
  rcases open_slice Try.underlying37 h with ⟨hcs, _⟩ | ⟨a', len', cap', m, n, D, Pl, hcs, _, hl, _⟩
  · simp [Value.cells] at hcs
    omega
  · simp [Value.cells] at hcs
    obtain ⟨_, h3, h4⟩ := hcs
    omega
end Go.Proofs.Ytgilbckfkngaiaa
