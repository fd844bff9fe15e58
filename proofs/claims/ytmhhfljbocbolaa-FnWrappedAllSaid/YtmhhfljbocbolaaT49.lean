/- The children of a node: the program's way over them. -/
import Derived.Test.YtmhhfljbocbolaaT48
namespace Go.Proofs.Ytmhhfljbocbolaa
open Go.RowKit
set_option linter.unusedVariables false

def ptrBlk : Value → Option Nat
  | .pointer (some a) => some a.block
  | _ => none
/-- How many of a list are left behind the one that a pointer leads to. -/
def leftOf (bl : Nat → Nat) (K : List Nat) (v : Value) : Nat := match ptrBlk v with | none => K.length + 1 | some b => K.length - K.findIdx fun i => bl i == b
theorem leftOf_nil (bl : Nat → Nat) (K : List Nat) : leftOf bl K (.pointer none) = K.length + 1 := rfl
theorem leftOf_at {bl : Nat → Nat} {K : List Nat} {k : Nat} (h : k < K.length) (hinj : ∀ i j (h1 : i < K.length) (h2 : j < K.length), bl K[i] = bl K[j] → i = j) : leftOf bl K (.pointer (some ⟨bl K[k], 0, none⟩)) = K.length - k := by
  unfold leftOf ptrBlk
  dsimp only
  congr 1
  rw [List.findIdx_eq h]
  refine ⟨by simp, fun j hj => ?_⟩
  rw [beq_eq_false_iff_ne]
  intro e
  have := hinj j k (by omega) h e
  omega

/-- A pointer to the k-th of a list, or nil behind its end. -/
def ptrK (bl : Nat → Nat) (K : List Nat) (k : Nat) : Value := .pointer (K[k]?.map fun i => ⟨bl i, 0, none⟩)
theorem ptrK_at {bl : Nat → Nat} {K : List Nat} {k : Nat} (h : k < K.length) : ptrK bl K k = .pointer (some ⟨bl K[k], 0, none⟩) := by
  unfold ptrK; rw [List.getElem?_eq_getElem h]; rfl
theorem ptrK_end {bl : Nat → Nat} {K : List Nat} {k : Nat} (h : K.length ≤ k) : ptrK bl K k = .pointer none := by
  unfold ptrK; rw [List.getElem?_eq_none h]; rfl

/-- The first one from k on that is an element. -/
def nextE (p : Nat → Bool) (K : List Nat) (k : Nat) : Nat := k + (K.drop k).findIdx p
theorem nextE_at {p : Nat → Bool} {K : List Nat} {k0 k : Nat} (hk : k0 ≤ k) (h : k < K.length) (hno : ∀ j (h : j < K.length), k0 ≤ j → j < k → p K[j] = false) (hy : p K[k] = true) : nextE p K k0 = k := by
  unfold nextE
  have : (K.drop k0).findIdx p = k - k0 := by
    rw [List.findIdx_eq (by simp; omega)]
    refine ⟨by simp only [List.getElem_drop]; rw [← hy]; congr 2; omega, fun j hj => ?_⟩
    rw [List.getElem_drop]
    exact hno _ _ (by omega) (by omega)
  omega
theorem nextE_end {p : Nat → Bool} {K : List Nat} {k0 : Nat} (hk : k0 ≤ K.length) (hno : ∀ j (h : j < K.length), k0 ≤ j → p K[j] = false) : nextE p K k0 = K.length := by
  unfold nextE
  have : (K.drop k0).findIdx p = (K.drop k0).length := by
    rw [List.findIdx_eq_length]
    intro x hx
    obtain ⟨i, hi, rfl⟩ := List.getElem_of_mem hx
    rw [List.getElem_drop]
    simp at hi
    exact hno _ _ (by omega)
  rw [this, List.length_drop]; omega
theorem nextE_ge (p : Nat → Bool) (K : List Nat) (k : Nat) : k ≤ nextE p K k := by unfold nextE; omega
theorem nextE_le (p : Nat → Bool) {K : List Nat} {k : Nat} (h : k ≤ K.length) : nextE p K k ≤ K.length := by
  unfold nextE
  have := List.findIdx_le_length (p := p) (xs := K.drop k)
  rw [List.length_drop] at this; omega

def isEl (t : List Nd) (i : Nat) : Bool := decide ((t.getD i default).kind = 3)

/-- What the iterator over all children reads: its three captured variables, and the nodes. -/
structure ItAt (t : List Nd) (bl : Nat → Nat) (st : Nat → Dn) (p : Nat) (K : List Nat) (b1 b2 b3 : Nat) (w : World) : Prop where
  st_ : w.cell? ⟨b1, 0, none⟩ = some (.int .i64 0)
  par : w.cell? ⟨b2, 0, none⟩ = some (.pointer (some ⟨bl p, 0, none⟩))
  skip : w.cell? ⟨b3, 0, none⟩ = some (.pointer none)
  fst : w.cell? ⟨bl p, 1, none⟩ = some (ptrK bl K 0)
  nxt : ∀ k (h : k < K.length), w.cell? ⟨bl K[k], 4, none⟩ = some (ptrK bl K (k + 1))
  typ : ∀ k (h : k < K.length), ∃ y, w.cell? ⟨bl K[k], 5, none⟩ = some (.int .u32 y) ∧ (y == 3) = isEl t K[k]
  inj : ∀ i j (h1 : i < K.length) (h2 : j < K.length), bl K[i] = bl K[j] → i = j

def CurK (bl : Nat → Nat) (K : List Nat) (k : Nat) : Value := if k = 0 then .pointer none else ptrK bl K (k - 1)

end Go.Proofs.Ytmhhfljbocbolaa
