/- Elements with one parent, counted. (No program in sight.) -/
import Derived.Test.YtgilbckfkngaiaaT26
namespace Go.Proofs.Ytgilbckfkngaiaa
set_option linter.unusedVariables false

/-- Whether an element is counted, by its name. -/
def cntQ (N : List ByteArray) (a : Nat) (ty : Bool) (j : Nat) : Bool := !ty || ((N.getD j default).toList == (N.getD a default).toList)
/-- How many are counted from a place on, so many. -/
def cntR (p : Nat → Bool) (k n : Nat) : Nat := ((List.range' k n).filter p).length
theorem cntR_zero (p : Nat → Bool) (k : Nat) : cntR p k 0 = 0 := rfl
theorem cntR_succ (p : Nat → Bool) (k n : Nat) : cntR p k (n + 1) = cntR p k n + if p (k + n) = true then 1 else 0 := by
  unfold cntR
  rw [List.range'_concat, List.filter_append, List.length_append, Nat.one_mul]
  congr 1
  rw [List.filter_cons]
  split <;> rfl
theorem cntR_cons (p : Nat → Bool) (k n : Nat) : cntR p k (n + 1) = (if p k = true then 1 else 0) + cntR p (k + 1) n := by
  unfold cntR
  rw [List.range'_succ, List.filter_cons]
  split
  · rw [List.length_cons]; omega
  · omega
theorem cntR_add (p : Nat → Bool) (k m n : Nat) : cntR p k (m + n) = cntR p k m + cntR p (k + m) n := by
  induction n with
  | zero => rfl
  | succ n ih => rw [← Nat.add_assoc, cntR_succ, cntR_succ, ih]; rw [Nat.add_assoc, Nat.add_assoc]
theorem cntR_le (p : Nat → Bool) (k n : Nat) : cntR p k n ≤ n := by
  unfold cntR; exact Nat.le_trans (List.length_filter_le _ _) (by rw [List.length_range']; exact Nat.le_refl _)
/-- Counted the other way round. -/
theorem cntR_rev (p q : Nat → Bool) (k l : Nat) : ∀ n, (∀ j, j < n → p (k + j) = q (l + (n - 1 - j))) → cntR p k n = cntR q l n := by
  intro n
  induction n generalizing k l with
  | zero => intro _; rfl
  | succ n ih =>
    intro h
    rw [cntR_cons, cntR_succ]
    have h0 := h 0 (by omega)
    rw [Nat.add_zero, show l + (n + 1 - 1 - 0) = l + n by omega] at h0
    rw [h0, ih (k + 1) l (fun j hj => by have := h (j + 1) (by omega); rw [show k + (j + 1) = k + 1 + j by omega, show l + (n + 1 - 1 - (j + 1)) = l + (n - 1 - j) by omega] at this; exact this)]
    omega
/-- An element's number, from 1 on. -/
def numN (N : List ByteArray) (a : Nat) (last ty : Bool) : Nat := if last = true then cntR (cntQ N a ty) a (N.length - a) else cntR (cntQ N a ty) 0 (a + 1)
theorem numN_rev (N : List ByteArray) (a : Nat) (ha : a < N.length) (last ty : Bool) : numN N a last ty = numN N.reverse (N.length - 1 - a) (!last) ty := by
  have hat : ∀ j, j < N.length → N.reverse.getD j default = N.getD (N.length - 1 - j) default := by
    intro j hj
    rw [List.getD_eq_getElem?_getD, List.getD_eq_getElem?_getD, List.getElem?_reverse hj]
  have hq : ∀ j, j < N.length → cntQ N.reverse (N.length - 1 - a) ty j = cntQ N a ty (N.length - 1 - j) := by
    intro j hj
    unfold cntQ
    rw [hat j hj, hat _ (by omega), show N.length - 1 - (N.length - 1 - a) = a by omega]
  unfold numN
  cases last
  · rw [if_neg (by simp)]; simp only [Bool.not_false, if_true]; rw [List.length_reverse, show N.length - (N.length - 1 - a) = a + 1 by omega]
    refine cntR_rev _ _ _ _ _ fun j hj => ?_
    rw [hq _ (by omega), show N.length - 1 - (N.length - 1 - a + (a + 1 - 1 - j)) = 0 + j by omega]
  · rw [if_pos rfl]; simp only [Bool.not_true, Bool.false_eq_true, if_false]; rw [show N.length - 1 - a + 1 = N.length - a by omega]
    refine cntR_rev _ _ _ _ _ fun j hj => ?_
    rw [hq _ (by omega), show N.length - 1 - (0 + (N.length - a - 1 - j)) = a + j by omega]
/-- From the end: of all the last ones. -/
theorem numN_last (N : List ByteArray) (a : Nat) (ha : a < N.length) (ty : Bool) : numN N a true ty + numN N a false ty = cntR (cntQ N a ty) 0 N.length + 1 := by
  unfold numN
  rw [if_pos rfl, if_neg (by simp)]
  have h1 := cntR_add (cntQ N a ty) 0 a (N.length - a)
  rw [show a + (N.length - a) = N.length by omega, Nat.zero_add] at h1
  have h2 := cntR_succ (cntQ N a ty) 0 a
  have h3 : cntQ N a ty (0 + a) = true := by unfold cntQ; rw [Nat.zero_add]; simp
  rw [if_pos h3] at h2
  omega
/-- An+b reaches a number. -/
def cntI (a b : Int) (n : Int) : Bool := if a = 0 then n == b else ((n - b).tmod a == 0) && decide (0 ≤ (n - b).tdiv a)
end Go.Proofs.Ytgilbckfkngaiaa
