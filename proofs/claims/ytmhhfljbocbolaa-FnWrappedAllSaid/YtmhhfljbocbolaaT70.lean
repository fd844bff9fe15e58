/- The nodes above a node. (No program in sight.) -/
import Derived.Test.YtmhhfljbocbolaaT54
import Derived.Test.YtmhhfljbocbolaaT51
namespace Go.Proofs.Ytmhhfljbocbolaa
open Go.RowKit
set_option linter.unusedVariables false

/-- The node right above another one. -/
def parJ (t : List Nd) (i : Nat) : Nat → Option Nat
  | 0 => none
  | j + 1 => if i < j + sz t j then some j else parJ t i j

theorem parI_parJ (t : List Nd) (i : Nat) : ∀ k, parI t i k = match parJ t i k with | none => -1 | some p => (p : Int) := by
  intro k
  induction k with
  | zero => rfl
  | succ j ih =>
    simp only [parI, parJ]
    by_cases h : i < j + sz t j
    · rw [if_pos h, if_pos h]
    · rw [if_neg h, if_neg h]; exact ih

theorem parJ_spec {t : List Nd} {i p : Nat} : ∀ {k}, parJ t i k = some p → p < k ∧ i < p + sz t p ∧ ∀ m, p < m → m < k → m + sz t m ≤ i := by
  intro k
  induction k with
  | zero => intro h; cases h
  | succ j ih =>
    intro h
    simp only [parJ] at h
    by_cases c : i < j + sz t j
    · rw [if_pos c] at h; cases h
      exact ⟨by omega, c, fun m h1 h2 => by omega⟩
    · rw [if_neg c] at h
      obtain ⟨h1, h2, h3⟩ := ih h
      refine ⟨by omega, h2, fun m q1 q2 => ?_⟩
      by_cases e : m = j
      · subst e; omega
      · exact h3 m q1 (by omega)
theorem parJ_some {t : List Nd} {i p : Nat} (hp : i < p + sz t p) : ∀ {k}, p < k → ∃ q, parJ t i k = some q := by
  intro k
  induction k with
  | zero => intro h; omega
  | succ j ih =>
    intro h
    simp only [parJ]
    by_cases c : i < j + sz t j
    · rw [if_pos c]; exact ⟨_, rfl⟩
    · rw [if_neg c]
      by_cases e : p = j
      · subst e; exact absurd hp c
      · exact ih (by omega)
theorem parJ_isPar {t : List Nd} {i p : Nat} (h : parJ t i i = some p) : IsPar (sz t) 0 p i := by
  obtain ⟨h1, h2, h3⟩ := parJ_spec h
  exact ⟨Nat.zero_le _, h1, h2, h3⟩
theorem isPar_parJ {t : List Nd} {i p : Nat} (h : IsPar (sz t) 0 p i) : parJ t i i = some p := by
  obtain ⟨q, hq⟩ := parJ_some h.2.2.1 h.2.1
  rw [hq, (parJ_isPar hq).uniq h]
theorem parJ_zero (t : List Nd) : parJ t 0 0 = none := rfl

def ancF (t : List Nd) : Nat → Nat → List Nat
  | 0, _ => []
  | f + 1, i => match parJ t i i with
    | none => []
    | some p => p :: ancF t f p
/-- The nodes above a node, the nearest one first. -/
def anc (t : List Nd) (i : Nat) : List Nat := ancF t i i

theorem ancF_fuel (t : List Nd) : ∀ (f f' i : Nat), i ≤ f → i ≤ f' → ancF t f i = ancF t f' i := by
  intro f
  induction f with
  | zero =>
    intro f' i h1 h2
    obtain rfl : i = 0 := by omega
    cases f' with
    | zero => rfl
    | succ f' => rfl
  | succ f ih =>
    intro f' i h1 h2
    cases f' with
    | zero =>
      obtain rfl : i = 0 := by omega
      rfl
    | succ f' =>
      simp only [ancF]
      cases hp : parJ t i i with
      | none => rfl
      | some p =>
        have := (parJ_spec hp).1
        simp only
        rw [ih f' p (by omega) (by omega)]
theorem anc_none {t : List Nd} {i : Nat} (h : parJ t i i = none) : anc t i = [] := by
  unfold anc
  cases i with
  | zero => rfl
  | succ i => simp only [ancF]; rw [h]
theorem anc_some {t : List Nd} {i p : Nat} (h : parJ t i i = some p) : anc t i = p :: anc t p := by
  have hp := (parJ_spec h).1
  unfold anc
  obtain ⟨j, rfl⟩ : ∃ j, i = j + 1 := ⟨i - 1, by omega⟩
  simp only [ancF]
  rw [h]
  simp only
  rw [ancF_fuel t j p p (by omega) (by omega)]

theorem anc_lt (t : List Nd) : ∀ (n i : Nat), i ≤ n → ∀ m ∈ anc t i, m < i := by
  intro n
  induction n with
  | zero =>
    intro i hi m hm
    obtain rfl : i = 0 := by omega
    rw [anc_none (parJ_zero t)] at hm; simp at hm
  | succ n ih =>
    intro i hi m hm
    cases hp : parJ t i i with
    | none => rw [anc_none hp] at hm; simp at hm
    | some p =>
      have h1 := (parJ_spec hp).1
      rw [anc_some hp, List.mem_cons] at hm
      rcases hm with rfl | hm
      · exact h1
      · have := ih p (by omega) m hm; omega
theorem anc_nodup (t : List Nd) : ∀ (n i : Nat), i ≤ n → (anc t i).Nodup ∧ (anc t i).length ≤ i := by
  intro n
  induction n with
  | zero =>
    intro i hi
    obtain rfl : i = 0 := by omega
    rw [anc_none (parJ_zero t)]; simp
  | succ n ih =>
    intro i hi
    cases hp : parJ t i i with
    | none => rw [anc_none hp]; simp
    | some p =>
      have h1 := (parJ_spec hp).1
      obtain ⟨i1, i2⟩ := ih p (by omega)
      rw [anc_some hp, List.nodup_cons, List.length_cons]
      exact ⟨⟨fun q => by have := anc_lt t p p (Nat.le_refl _) p q; omega, i1⟩, by omega⟩
theorem anc_und {t : List Nd} (hR : RightP t) (m : Nat) (hm : m < t.length) : ∀ (n i : Nat), i ≤ n → i < t.length → (m ∈ anc t i ↔ und t m i = true) := by
  intro n
  induction n with
  | zero =>
    intro i hi hit
    obtain rfl : i = 0 := by omega
    rw [anc_none (parJ_zero t)]; simp [und]
  | succ n ih =>
    intro i hi hit
    cases hp : parJ t i i with
    | none =>
      have h0 : i = 0 := by
        rcases Nat.eq_zero_or_pos i with e | e
        · exact e
        · obtain ⟨q, hq⟩ := parJ_some (t := t) (i := i) (p := 0) (by rw [hR.top]; omega) e
          rw [hp] at hq; cases hq
      subst h0
      rw [anc_none hp]; simp [und]
    | some p =>
      have h1 := (parJ_spec hp).1
      rw [anc_some hp, List.mem_cons, ih p (by omega) (by omega), und_par hR.lam hm (by omega) (parJ_isPar hp), Bool.or_eq_true, decide_eq_true_eq]
      constructor
      · rintro (h | h)
        · exact .inl h.symm
        · exact .inr h
      · rintro (h | h)
        · exact .inl h.symm
        · exact .inr h

/-- Up to, without, the first one that is among others. -/
def till (ms l : List Nat) : List Nat := l.takeWhile fun x => !decide (x ∈ ms)
theorem till_nil (l : List Nat) : till [] l = l := by
  unfold till
  induction l with
  | nil => rfl
  | cons x l ih => rw [List.takeWhile_cons]; simp only [List.not_mem_nil, decide_false, Bool.not_false, if_true]; rw [show (List.takeWhile (fun x => true) l) = l from by simpa using ih]
theorem till_mem {ms l : List Nat} {x : Nat} (h : x ∈ till ms l) : x ∈ l := (List.takeWhile_prefix _).subset h
theorem till_nodup {ms l : List Nat} (h : l.Nodup) : (till ms l).Nodup := h.sublist (List.takeWhile_prefix _).sublist
theorem till_len (ms l : List Nat) : (till ms l).length ≤ l.length := (List.takeWhile_prefix _).length_le
theorem till_els {t : List Nd} {ms : List Nat} (h : ∀ m ∈ ms, isEl t m = true) (l : List Nat) : elsOf t (till ms l) = till ms (elsOf t l) := by
  unfold elsOf till
  induction l with
  | nil => rfl
  | cons x l ih =>
    by_cases hx : x ∈ ms
    · have he := h x hx
      rw [List.takeWhile_cons, List.filter_cons]
      simp only [hx, decide_true, Bool.not_true, Bool.false_eq_true, if_false, he, if_true, List.filter_nil, List.takeWhile_cons]
    · rw [List.takeWhile_cons, List.filter_cons]
      simp only [hx, decide_false, Bool.not_false, if_true]
      rw [List.filter_cons]
      by_cases he : isEl t x = true
      · rw [if_pos he, if_pos he, List.takeWhile_cons, ih]
        simp only [hx, decide_false, Bool.not_false, if_true]
      · rw [if_neg he, if_neg he, ih]
/-- The ancestors of a node are those up to one of them, this one, and its ancestors. -/
theorem anc_parts {t : List Nd} (u : Nat) : ∀ (n i : Nat), i ≤ n → u ∈ anc t i → anc t i = till [u] (anc t i) ++ u :: anc t u := by
  intro n
  induction n with
  | zero =>
    intro i hi hu
    obtain rfl : i = 0 := by omega
    rw [anc_none (parJ_zero t)] at hu; simp at hu
  | succ n ih =>
    intro i hi hu
    cases hp : parJ t i i with
    | none => rw [anc_none hp] at hu; simp at hu
    | some p =>
      have h1 := (parJ_spec hp).1
      rw [anc_some hp] at hu ⊢
      by_cases e : p = u
      · subst e
        unfold till
        rw [List.takeWhile_cons]
        simp
      · have hu2 : u ∈ anc t p := by
          rcases List.mem_cons.1 hu with h | h
          · exact absurd h.symm e
          · exact h
        have := ih p (by omega) hu2
        unfold till at this ⊢
        rw [List.takeWhile_cons]
        simp only [List.mem_singleton, e, decide_false, Bool.not_false, if_true]
        simp only [List.mem_singleton] at this
        conv => lhs; rw [this]
        rfl
end Go.Proofs.Ytmhhfljbocbolaa
