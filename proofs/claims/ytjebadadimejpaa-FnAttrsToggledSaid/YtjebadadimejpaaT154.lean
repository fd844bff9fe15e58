/- What the law of removed attributes compares, as lists. (No program in sight.) -/
import Derived.Test.YtjebadadimejpaaT68
namespace Go.Proofs.Ytjebadadimejpaa
set_option linter.unusedVariables false

theorem idxA_find {l : List At2} {k : ByteArray} : idxA l k < l.length ↔ ∃ x, findA l k = some x := by
  constructor
  · intro h
    cases hf : findA l k with
    | some x => exact ⟨x, rfl⟩
    | none => exact absurd (idxA_key h) ((findA_no.1 hf) _ (List.getElem_mem h))
  · rintro ⟨x, hx⟩
    unfold findA at hx
    have h1 := List.mem_of_find?_eq_some hx
    have h2 := List.find?_some hx
    exact idxA_lt h1 (tl_eq.1 h2)
theorem findA_none_idx {l : List At2} {k : ByteArray} (h : findA l k = none) : ¬ idxA l k < l.length := by
  rw [idxA_find, h]; rintro ⟨x, hx⟩; cases hx

theorem rm_self {l : List At2} {k : ByteArray} (h : KeysOnce l) : findA (rmA l k) k = none := by
  rw [findA_no]
  intro x hx
  exact ((rmA_mem h x).1 hx).2
theorem rm_other {l : List At2} {k : ByteArray} (h : KeysOnce l) {x : At2} (hx : x ∈ l) (hk : x.key.toList ≠ k.toList) : findA (rmA l k) x.key = some x :=
  (findA_mem (rmA_once h)).2 ⟨(rmA_mem h x).2 ⟨hx, hk⟩, rfl⟩
theorem rm_back {l : List At2} {k : ByteArray} (h : KeysOnce l) {x : At2} (hx : x ∈ rmA l k) : findA l x.key = some x :=
  (findA_mem h).2 ⟨((rmA_mem h x).1 hx).1, rfl⟩
theorem gone_mem {l : List At2} {k v : ByteArray} (h : KeysOnce l) (x : At2) : x ∈ rmA (setA l k v) k ↔ x ∈ l ∧ x.key.toList ≠ k.toList := by
  rw [rmA_mem (setA_once h), setA_mem h]
  constructor
  · rintro ⟨h1 | h1, h2⟩
    · exact h1
    · exact absurd h1.1 h2
  · rintro ⟨h1, h2⟩
    exact ⟨.inl ⟨h1, h2⟩, h2⟩
theorem gone_self {l : List At2} {k v : ByteArray} (h : KeysOnce l) : findA (rmA (setA l k v) k) k = none := rm_self (setA_once h)
theorem gone_other {l : List At2} {k v : ByteArray} (h : KeysOnce l) {x : At2} (hx : x ∈ l) (hk : x.key.toList ≠ k.toList) : findA (rmA (setA l k v) k) x.key = some x :=
  (findA_mem (rmA_once (setA_once h))).2 ⟨(gone_mem h x).2 ⟨hx, hk⟩, rfl⟩
theorem gone_back {l : List At2} {k v : ByteArray} (h : KeysOnce l) {x : At2} (hx : x ∈ rmA (setA l k v) k) : findA l x.key = some x :=
  (findA_mem h).2 ⟨((gone_mem h x).1 hx).1, rfl⟩
theorem rm_had {l : List At2} {k : ByteArray} {x : At2} (hf : findA l k = some x) : (rmA l k).length + 1 = l.length := by
  have := idxA_find.2 ⟨x, hf⟩
  rw [rmA_len, if_pos this]; omega
theorem rm_not {l : List At2} {k : ByteArray} (hf : findA l k = none) : (rmA l k).length = l.length := by
  rw [rmA_len, if_neg (findA_none_idx hf)]
theorem gone_len {l : List At2} {k v : ByteArray} (h : KeysOnce l) : (rmA (setA l k v) k).length = (rmA l k).length := by
  obtain ⟨x, hx, _⟩ := setA_find (v := v) (k := k) h
  have h1 := idxA_find.2 ⟨x, hx⟩
  rw [rmA_len, if_pos h1, rmA_len, setA_len]
  split <;> omega
theorem setA_le {l : List At2} {k v : ByteArray} : (setA l k v).length ≤ l.length + 1 := by rw [setA_len]; split <;> omega
theorem rmA_le {l : List At2} {k : ByteArray} : (rmA l k).length ≤ l.length := by rw [rmA_len]; split <;> omega
theorem setA_new {l : List At2} {k v : ByteArray} (h : ¬ idxA l k < l.length) : setA l k v = l ++ [⟨k, v⟩] := by unfold setA; rw [dif_neg h]
theorem setA_old {l : List At2} {k v : ByteArray} (h : idxA l k < l.length) : setA l k v = l.set (idxA l k) ⟨l[idxA l k].key, v⟩ := by unfold setA; rw [dif_pos h]
theorem setA_small {l : List At2} {k v : ByteArray} {n : Nat} (hl : ∀ x ∈ l, x.key.size ≤ n ∧ x.val.size ≤ n) (hk : k.size ≤ n) (hv : v.size ≤ n) : ∀ x ∈ setA l k v, x.key.size ≤ n ∧ x.val.size ≤ n := by
  by_cases h : idxA l k < l.length
  · rw [setA_old h]
    intro x hx
    rcases List.mem_or_eq_of_mem_set hx with h1 | h1
    · exact hl x h1
    · subst h1; exact ⟨(hl _ (List.getElem_mem h)).1, hv⟩
  · rw [setA_new h]
    intro x hx
    rcases List.mem_append.1 hx with h1 | h1
    · exact hl x h1
    · rw [List.mem_singleton] at h1; subst h1; exact ⟨hk, hv⟩
theorem rmA_small {l : List At2} {k : ByteArray} {n : Nat} (hl : ∀ x ∈ l, x.key.size ≤ n ∧ x.val.size ≤ n) : ∀ x ∈ rmA l k, x.key.size ≤ n ∧ x.val.size ≤ n := by
  intro x hx
  by_cases hi : idxA l k < l.length
  · exact hl x ((rmA_sub hi).subset ((rmA_perm hi).mem_iff.1 hx))
  · unfold rmA at hx; rw [if_neg hi] at hx; exact hl x hx
end Go.Proofs.Ytjebadadimejpaa
