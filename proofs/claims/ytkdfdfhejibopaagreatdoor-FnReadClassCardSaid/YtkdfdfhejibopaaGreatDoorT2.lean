/- The reference's look at a tree: sizes. -/
import Derived.Test.YtkdfdfhejibopaaGreatDoorT1
namespace Go.Proofs.YtkdfdfhejibopaaGreatDoor
open Go.RowKit

/-- How many nodes the node at a place is, with all beneath it (0 where Go's number is below 0). -/
def sz (t : List Nd) (i : Nat) : Nat := (t.getD i default).size.toNat

/-- From lo up to hi the sizes are those of trees, one within the other. -/
def Lam (t : List Nd) (lo hi : Nat) : Prop :=
  ∀ i, lo ≤ i → i < hi → (t.getD i default).size = (sz t i : Int) ∧ 1 ≤ sz t i ∧ i + sz t i ≤ hi ∧ ∀ j, i < j → j < i + sz t i → j + sz t j ≤ i + sz t i

theorem Lam.empty (t : List Nd) (lo : Nat) : Lam t lo lo := fun i h1 h2 => by omega

theorem Lam.snoc {t : List Nd} {lo k : Nat} (h : Lam t lo k) (h2 : Lam t k (k + sz t k)) : Lam t lo (k + sz t k) := by
  intro i hi hk
  by_cases e : i < k
  · obtain ⟨a, b, c, d⟩ := h i hi e
    exact ⟨a, b, by omega, d⟩
  · exact h2 i (by omega) hk

theorem Lam.node {t : List Nd} {i : Nat} (hs : (t.getD i default).size = (sz t i : Int)) (h1 : 1 ≤ sz t i) (h : Lam t (i + 1) (i + sz t i)) : Lam t i (i + sz t i) := by
  intro j hj hk
  by_cases e : j = i
  · subst e
    exact ⟨hs, h1, Nat.le_refl _, fun m hm hm2 => (h m hm hm2).2.2.1⟩
  · exact h j (by omega) hk

structure SizedP (t : List Nd) (i en : Nat) : Prop where
  pos : 1 ≤ sz t i
  top : i + sz t i ≤ en
  lam : Lam t i (i + sz t i)

def SomeB (P : Bool → Prop) (w : World) (e : Ending) (w' : World) : Prop := ∃ b, e = .returned (.bool b) ∧ P b ∧ w = w'

end Go.Proofs.YtkdfdfhejibopaaGreatDoor
