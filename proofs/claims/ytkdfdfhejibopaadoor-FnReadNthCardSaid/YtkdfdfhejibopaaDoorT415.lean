/- What the reader counts by an+b, as data. -/
import Derived.Test.YtkdfdfhejibopaaDoorT426
namespace Go.Proofs.YtkdfdfhejibopaaDoor
open Go.RowKit
set_option linter.unusedVariables false

def oddT : ByteArray := ⟨#[111, 100, 100]⟩
def evenT : ByteArray := ⟨#[101, 118, 101, 110]⟩

/-- The sign ahead of a number: where the number begins, and what it is counted with. -/
def Sg (s : ByteArray) (p : Nat) (σ : Int) : Prop :=
  (bAt s 0 = 45 ∧ p = 1 ∧ σ = -1) ∨ (bAt s 0 = 43 ∧ p = 1 ∧ σ = 1) ∨ (bAt s 0 ≠ 45 ∧ bAt s 0 ≠ 43 ∧ p = 0 ∧ σ = 1)
theorem Sg.le {s : ByteArray} {p : Nat} {σ : Int} (h : Sg s p σ) : p ≤ s.size ∧ -1 ≤ σ ∧ σ ≤ 1 := by
  rcases h with ⟨h, rfl, rfl⟩ | ⟨h, rfl, rfl⟩ | ⟨_, _, rfl, rfl⟩
  · refine ⟨?_, by omega, by omega⟩
    by_cases q : 0 < s.size
    · omega
    · rw [bAt_out (by omega)] at h; omega
  · refine ⟨?_, by omega, by omega⟩
    by_cases q : 0 < s.size
    · omega
    · rw [bAt_out (by omega)] at h; omega
  · exact ⟨by omega, by omega, by omega⟩
theorem Sg.uniq {s : ByteArray} {p p' : Nat} {σ σ' : Int} (h : Sg s p σ) (h' : Sg s p' σ') : p = p' ∧ σ = σ' := by
  rcases h with ⟨h1, h2, h3⟩ | ⟨h1, h2, h3⟩ | ⟨h1, h2, h3, h4⟩ <;> rcases h' with ⟨k1, k2, k3⟩ | ⟨k1, k2, k3⟩ | ⟨k1, k2, k3, k4⟩ <;> omega

def isLN (c : Nat) : Prop := c = 110 ∨ c = 78
/-- A number or its sign alone. -/
def CntA (s : ByteArray) (a b : Int) (k : Nat) (bd : Bool) : Prop :=
  ∃ (p j : Nat) (σ : Int), Sg s p σ ∧ DgTo s p j ∧ dgC s p j < 100000 ∧ ¬ isLN (bAt s (p + j)) ∧ a = 0 ∧ b = σ * (dgC s p j : Int) ∧ k = p + j ∧ bd = decide (j = 0) ∧ ∀ i, k ≤ i → i < k + 4 → bAt s i ≠ 92
/-- The number ahead of n. -/
def num1 (s : ByteArray) (p j : Nat) : Nat := if j = 0 then 1 else dgC s p j
def CntN (s : ByteArray) (a b : Int) (k : Nat) (bd : Bool) : Prop :=
  ∃ (p j e : Nat) (σ : Int), Sg s p σ ∧ DgTo s p j ∧ dgC s p j < 100000 ∧ isLN (bAt s (p + j)) ∧ a = σ * (num1 s p j : Int) ∧ Sk s (p + j + 1) e ∧ bAt s e ≠ 43 ∧ bAt s e ≠ 45 ∧ b = 0 ∧ k = e ∧ bd = false
def CntM (s : ByteArray) (a b : Int) (k : Nat) (bd : Bool) : Prop :=
  ∃ (p j e e2 j2 : Nat) (σ : Int), Sg s p σ ∧ DgTo s p j ∧ dgC s p j < 100000 ∧ isLN (bAt s (p + j)) ∧ a = σ * (num1 s p j : Int) ∧ Sk s (p + j + 1) e ∧ (bAt s e = 43 ∨ bAt s e = 45) ∧ Sk s (e + 1) e2 ∧ DgTo s e2 j2 ∧ dgC s e2 j2 < 100000 ∧
    b = (if bAt s e = 45 then -(dgC s e2 j2 : Int) else (dgC s e2 j2 : Int)) ∧ k = e2 + j2 ∧ bd = decide (j2 = 0)
/-- What is counted. -/
def CntS (s : ByteArray) (a b : Int) (k : Nat) (bd : Bool) : Prop :=
  (wordB s oddT 0 = true ∧ a = 2 ∧ b = 1 ∧ k = 3 ∧ bd = false) ∨
  (wordB s oddT 0 = false ∧ wordB s evenT 0 = true ∧ a = 2 ∧ b = 0 ∧ k = 4 ∧ bd = false) ∨
  (wordB s oddT 0 = false ∧ wordB s evenT 0 = false ∧ (CntA s a b k bd ∨ CntN s a b k bd ∨ CntM s a b k bd))
end Go.Proofs.YtkdfdfhejibopaaDoor
