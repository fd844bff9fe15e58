/- Places of elements, each once; a right tree, and such places ascending. -/
import Derived.Test.YtjebadadimejpaaT39
namespace Go.Proofs.Ytjebadadimejpaa
open Go.RowKit
set_option linter.unusedVariables false

/-- Places of elements of a tree, each once. -/
structure ElemP (t : List Nd) (l : List Int) (ns : List Nat) : Prop where
  eq : l = toI ns
  lt : ∀ k ∈ ns, k < t.length
  kind : ∀ k ∈ ns, (t.getD k default).kind = 3
  nodup : ns.Nodup

def ElSeen (t : List Nd) (l : List Int) (k : Nat) : Prop := ∀ i (h : i < l.length), i < k → 0 ≤ l[i] ∧ l[i] < t.length ∧ (t.getD l[i].toNat default).kind = 3 ∧ l[i] ∉ l.take i

theorem elSeen_all {t : List Nd} {l : List Int} (h : ElSeen t l l.length) : ∃ ns, ElemP t l ns := by
  have hl : l = toI (l.map Int.toNat) := by
    unfold toI
    rw [List.map_map]
    apply List.ext_getElem
    · simp
    · intro i h1 h2
      have := (h i h1 h1).1
      simp
      omega
  have hnd : l.Nodup := by
    unfold List.Nodup
    rw [List.pairwise_iff_getElem]
    intro i j hi hj hij e
    refine (h j hj hj).2.2.2 ?_
    rw [← e]
    exact List.mem_take_iff_getElem.2 ⟨i, by omega, rfl⟩
  refine ⟨l.map Int.toNat, hl, fun k hk => ?_, fun k hk => ?_, ?_⟩
  · obtain ⟨x, hx, rfl⟩ := List.mem_map.1 hk
    obtain ⟨i, hi, rfl⟩ := List.getElem_of_mem hx
    have := h i hi hi
    omega
  · obtain ⟨x, hx, rfl⟩ := List.mem_map.1 hk
    obtain ⟨i, hi, rfl⟩ := List.getElem_of_mem hx
    exact (h i hi hi).2.2.1
  · have := hnd
    rw [hl] at this
    unfold toI at this
    exact (List.pairwise_map.1 this).imp (fun h e => h (by rw [e]))

def ElPost (t : List Nd) (l : List Int) (w : World) (e : Ending) (w' : World) : Prop := ∃ b, e = .returned (.bool b) ∧ (b = true → ∃ ns, ElemP t l ns) ∧ Below w.heap.size w w'

end Go.Proofs.Ytjebadadimejpaa
