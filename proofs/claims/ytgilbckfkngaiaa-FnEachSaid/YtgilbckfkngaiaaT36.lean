/- Functions given as data: what they keep. -/
import Derived.Test.YtgilbckfkngaiaaT34
import Derived.Test.YtgilbckfkngaiaaT35
namespace Go.Proofs.Ytgilbckfkngaiaa
open Go.RowKit
set_option linter.unusedVariables false

def bvs (l : List Bool) : List Value := l.map Value.bool
theorem bvs_length (l : List Bool) : (bvs l).length = l.length := by simp [bvs]
theorem bvs_at {l : List Bool} {i : Nat} (h : i < l.length) : (bvs l)[i]'(by rw [bvs_length]; exact h) = .bool l[i] := by simp [bvs]
theorem bvs_snoc (l : List Bool) (x : Bool) : bvs (l ++ [x]) = bvs l ++ [.bool x] := by simp [bvs]

/-- A closure that answers by a list: what its call says. -/
def Answers (f : Nat) (b : Nat) (p : Nat → Bool) (w : World) : Prop :=
  ∀ (W : World) (i : Nat) (s : Option Addr), Below w.heap.size w W → i ≤ 2147483647 → Calls Try.prog f #[.int .i64 i, .pointer s, .pointer (some ⟨b, 0, none⟩)] W fun e w' => e = .returned (.bool (p i)) ∧ W = w'

/-- Those of a list of which a test of their numbers says yes. -/
def pickN (p : Nat → Bool) (ns : List Nat) : List Nat := (ns.zipIdx.filter fun x => p x.2).map (·.1)
theorem pickN_snoc (p : Nat → Bool) (ns : List Nat) (i : Nat) : pickN p (ns ++ [i]) = pickN p ns ++ if p ns.length = true then [i] else [] := by
  unfold pickN
  rw [List.zipIdx_append, List.filter_append, List.map_append]
  congr 1
  simp only [List.zipIdx_cons, List.zipIdx_nil, Nat.zero_add]
  rw [List.filter_cons, List.filter_nil]
  by_cases h : p ns.length = true
  · rw [if_pos h, if_pos h]; rfl
  · rw [if_neg h, if_neg h]; rfl
theorem pickN_len (p : Nat → Bool) (ns : List Nat) : (pickN p ns).length ≤ ns.length := by
  unfold pickN
  rw [List.length_map]
  exact Nat.le_trans (List.length_filter_le _ _) (by simp)
theorem pickN_mem {p : Nat → Bool} {ns : List Nat} {k : Nat} (h : k ∈ pickN p ns) : k ∈ ns := by
  unfold pickN at h
  obtain ⟨x, hx, rfl⟩ := List.mem_map.1 h
  have := (List.mem_filter.1 hx).1
  exact (List.mem_zipIdx' this).2 ▸ List.getElem_mem _
theorem pickN_congr {p q : Nat → Bool} {ns : List Nat} (h : ∀ i, i < ns.length → p i = q i) : pickN p ns = pickN q ns := by
  unfold pickN
  congr 1
  apply List.filter_congr
  rintro ⟨x, i⟩ hx
  exact h i (List.mem_zipIdx' hx).1
end Go.Proofs.Ytgilbckfkngaiaa
