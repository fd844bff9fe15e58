/- Attributes removed and set, as lists. (No program in sight.) -/
import Derived.Test.YtjebadadimejpaaT26
namespace Go.Proofs.Ytjebadadimejpaa
set_option linter.unusedVariables false

theorem tl_eq {a b : ByteArray} : (a.toList == b.toList) = true ↔ a.toList = b.toList := beq_iff_eq

/-- Each key once. -/
def KeysOnce (l : List At2) : Prop := (l.map fun x => x.key.toList).Nodup

theorem findA_mem {l : List At2} (h : KeysOnce l) {k : ByteArray} {x : At2} : findA l k = some x ↔ x ∈ l ∧ x.key.toList = k.toList := by
  unfold findA
  induction l with
  | nil => simp
  | cons y l ih =>
    unfold KeysOnce at h
    rw [List.map_cons, List.nodup_cons] at h
    have ih := ih h.2
    rw [List.find?_cons]
    by_cases hy : y.key.toList = k.toList
    · rw [tl_eq.2 hy]
      simp only [Option.some.injEq, List.mem_cons]
      constructor
      · rintro rfl; exact ⟨.inl rfl, hy⟩
      · rintro ⟨rfl | hx, hk⟩
        · rfl
        · exact absurd (List.mem_map.2 ⟨x, hx, hk.trans hy.symm⟩) h.1
    · have hb : (y.key.toList == k.toList) = false := by rw [beq_eq_false_iff_ne]; exact hy
      rw [hb]
      simp only [List.mem_cons]
      rw [ih]
      constructor
      · rintro ⟨a, b⟩; exact ⟨.inr a, b⟩
      · rintro ⟨rfl | hx, hk⟩
        · exact absurd hk hy
        · exact ⟨hx, hk⟩
theorem findA_no {l : List At2} {k : ByteArray} : findA l k = none ↔ ∀ x ∈ l, x.key.toList ≠ k.toList := by
  unfold findA
  rw [List.find?_eq_none]
  constructor
  · intro h x hx e; exact h x hx (tl_eq.2 e)
  · intro h x hx e; exact h x hx (tl_eq.1 e)

/-- Where a key stands. -/
def idxA (l : List At2) (k : ByteArray) : Nat := l.findIdx fun x => x.key.toList == k.toList
theorem idxA_at {l : List At2} {k : ByteArray} {i : Nat} (hi : i < l.length) (hb : ∀ j (h : j < l.length), j < i → (l[j].key.toList == k.toList) = false) (he : (l[i].key.toList == k.toList) = true) : idxA l k = i := by
  unfold idxA
  rw [List.findIdx_eq hi]
  exact ⟨he, fun j hj => hb j (by omega) hj⟩
theorem idxA_none {l : List At2} {k : ByteArray} (hb : ∀ j (h : j < l.length), (l[j].key.toList == k.toList) = false) : idxA l k = l.length := by
  unfold idxA
  rw [List.findIdx_eq_length]
  intro x hx
  obtain ⟨j, hj, rfl⟩ := List.getElem_of_mem hx
  exact hb j hj
theorem idxA_key {l : List At2} {k : ByteArray} (h : idxA l k < l.length) : l[idxA l k].key.toList = k.toList := by
  have := List.findIdx_getElem (w := h)
  exact tl_eq.1 this
theorem idxA_lt {l : List At2} {k : ByteArray} {x : At2} (hx : x ∈ l) (hk : x.key.toList = k.toList) : idxA l k < l.length :=
  List.findIdx_lt_length_of_exists ⟨x, hx, tl_eq.2 hk⟩

/-- The last one first. -/
def rotL (l : List At2) : List At2 := match l.getLast? with | none => [] | some z => z :: l.dropLast
theorem rotL_nil : rotL [] = [] := rfl
theorem rotL_snoc (l : List At2) (z : At2) : rotL (l ++ [z]) = z :: l := by
  unfold rotL; simp
theorem rotL_perm (l : List At2) : (rotL l).Perm l := by
  rcases List.eq_nil_or_concat l with rfl | ⟨l', z, rfl⟩
  · exact List.Perm.nil
  · rw [List.concat_eq_append, rotL_snoc]
    exact (List.perm_append_singleton z l').symm
def rmA (l : List At2) (k : ByteArray) : List At2 := if idxA l k < l.length then l.take (idxA l k) ++ rotL (l.drop (idxA l k + 1)) else l
theorem rmA_perm {l : List At2} {k : ByteArray} (h : idxA l k < l.length) : (rmA l k).Perm (l.take (idxA l k) ++ l.drop (idxA l k + 1)) := by
  unfold rmA
  rw [if_pos h]
  exact (List.Perm.refl _).append (rotL_perm _)
theorem rmA_sub {l : List At2} {k : ByteArray} (h : idxA l k < l.length) : (l.take (idxA l k) ++ l.drop (idxA l k + 1)).Sublist l := by
  conv => rhs; rw [← List.take_append_drop (idxA l k) l]
  exact (List.Sublist.refl _).append (by rw [List.drop_eq_getElem_cons h]; exact List.sublist_cons_self _ _)
theorem rmA_once {l : List At2} {k : ByteArray} (h : KeysOnce l) : KeysOnce (rmA l k) := by
  by_cases hi : idxA l k < l.length
  · unfold KeysOnce at h ⊢
    exact ((rmA_perm hi).map _).nodup_iff.2 (h.sublist ((rmA_sub hi).map _))
  · unfold rmA; rw [if_neg hi]; exact h
theorem rmA_mem {l : List At2} {k : ByteArray} (h : KeysOnce l) (x : At2) : x ∈ rmA l k ↔ x ∈ l ∧ x.key.toList ≠ k.toList := by
  by_cases hi : idxA l k < l.length
  · have hk := idxA_key hi
    have hsplit : l = l.take (idxA l k) ++ l[idxA l k] :: l.drop (idxA l k + 1) := by
      rw [← List.drop_eq_getElem_cons hi, List.take_append_drop]
    rw [(rmA_perm hi).mem_iff, List.mem_append]
    have hx2 : x ∈ l ↔ x ∈ l.take (idxA l k) ∨ x = l[idxA l k] ∨ x ∈ l.drop (idxA l k + 1) := by
      conv => lhs; rw [hsplit]
      rw [List.mem_append, List.mem_cons]
    have hno : ∀ y, y ∈ l.take (idxA l k) ∨ y ∈ l.drop (idxA l k + 1) → y.key.toList ≠ k.toList := by
      intro y hy e
      unfold KeysOnce at h
      rw [hsplit, List.map_append, List.map_cons, List.nodup_append] at h
      obtain ⟨_, h2, h3⟩ := h
      rw [List.nodup_cons] at h2
      rcases hy with hy | hy
      · exact h3 _ (List.mem_map.2 ⟨y, hy, rfl⟩) _ (List.mem_cons_self) (e.trans hk.symm)
      · exact h2.1 (List.mem_map.2 ⟨y, hy, e.trans hk.symm⟩)
    constructor
    · intro hx
      exact ⟨hx2.2 (hx.elim .inl fun q => .inr (.inr q)), hno x hx⟩
    · rintro ⟨hx, hne⟩
      rcases hx2.1 hx with q | q | q
      · exact .inl q
      · rw [q] at hne; exact absurd hk hne
      · exact .inr q
  · unfold rmA
    rw [if_neg hi]
    exact ⟨fun hx => ⟨hx, fun e => hi (idxA_lt hx e)⟩, fun hx => hx.1⟩
theorem rmA_len {l : List At2} {k : ByteArray} : (rmA l k).length = if idxA l k < l.length then l.length - 1 else l.length := by
  by_cases hi : idxA l k < l.length
  · rw [(rmA_perm hi).length_eq, if_pos hi, List.length_append, List.length_take, List.length_drop]; omega
  · unfold rmA; rw [if_neg hi, if_neg hi]

/-- An attribute set. -/
def setA (l : List At2) (k v : ByteArray) : List At2 := if h : idxA l k < l.length then l.set (idxA l k) ⟨l[idxA l k].key, v⟩ else l ++ [⟨k, v⟩]
theorem setA_keys {l : List At2} {k v : ByteArray} (h : idxA l k < l.length) : (setA l k v).map (fun x => x.key.toList) = l.map fun x => x.key.toList := by
  unfold setA
  rw [dif_pos h, List.map_set]
  apply List.ext_getElem
  · simp
  · intro j h1 h2
    rw [List.getElem_set]
    split
    · rename_i e; subst e; simp
    · rfl
theorem setA_once {l : List At2} {k v : ByteArray} (h : KeysOnce l) : KeysOnce (setA l k v) := by
  by_cases hi : idxA l k < l.length
  · unfold KeysOnce; rw [setA_keys hi]; exact h
  · unfold KeysOnce setA at *
    rw [dif_neg hi, List.map_append, List.nodup_append]
    refine ⟨h, by simp, fun a ha b hb => ?_⟩
    simp only [List.map_cons, List.map_nil, List.mem_singleton] at hb
    subst hb
    obtain ⟨x, hx, rfl⟩ := List.mem_map.1 ha
    exact fun e => hi (idxA_lt hx e)
theorem setA_mem {l : List At2} {k v : ByteArray} (h : KeysOnce l) (x : At2) : x ∈ setA l k v ↔ (x ∈ l ∧ x.key.toList ≠ k.toList) ∨ (x.key.toList = k.toList ∧ x.val = v ∧ x = ⟨if h : idxA l k < l.length then l[idxA l k].key else k, v⟩) := by
  by_cases hi : idxA l k < l.length
  · have hk := idxA_key hi
    unfold setA
    rw [dif_pos hi, dif_pos hi]
    have hsplit : l = l.take (idxA l k) ++ l[idxA l k] :: l.drop (idxA l k + 1) := by
      rw [← List.drop_eq_getElem_cons hi, List.take_append_drop]
    have hno : ∀ y, y ∈ l.take (idxA l k) ∨ y ∈ l.drop (idxA l k + 1) → y.key.toList ≠ k.toList := by
      intro y hy e
      unfold KeysOnce at h
      rw [hsplit, List.map_append, List.map_cons, List.nodup_append] at h
      obtain ⟨_, h2, h3⟩ := h
      rw [List.nodup_cons] at h2
      rcases hy with hy | hy
      · exact h3 _ (List.mem_map.2 ⟨y, hy, rfl⟩) _ (List.mem_cons_self) (e.trans hk.symm)
      · exact h2.1 (List.mem_map.2 ⟨y, hy, e.trans hk.symm⟩)
    have hx2 : x ∈ l ↔ x ∈ l.take (idxA l k) ∨ x = l[idxA l k] ∨ x ∈ l.drop (idxA l k + 1) := by
      conv => lhs; rw [hsplit]
      rw [List.mem_append, List.mem_cons]
    rw [List.set_eq_take_append_cons_drop, if_pos hi, List.mem_append, List.mem_cons]
    constructor
    · rintro (q | q | q)
      · exact .inl ⟨hx2.2 (.inl q), hno x (.inl q)⟩
      · subst q; exact .inr ⟨hk, rfl, rfl⟩
      · exact .inl ⟨hx2.2 (.inr (.inr q)), hno x (.inr q)⟩
    · rintro (⟨q, hne⟩ | ⟨_, _, q⟩)
      · rcases hx2.1 q with q | q | q
        · exact .inl q
        · rw [q] at hne; exact absurd hk hne
        · exact .inr (.inr q)
      · exact .inr (.inl q)
  · unfold setA
    rw [dif_neg hi, dif_neg hi, List.mem_append, List.mem_singleton]
    constructor
    · rintro (q | q)
      · exact .inl ⟨q, fun e => hi (idxA_lt q e)⟩
      · subst q; exact .inr ⟨rfl, rfl, rfl⟩
    · rintro (⟨q, _⟩ | ⟨_, _, q⟩)
      · exact .inl q
      · exact .inr q
theorem setA_len {l : List At2} {k v : ByteArray} : (setA l k v).length = if idxA l k < l.length then l.length else l.length + 1 := by
  unfold setA
  by_cases hi : idxA l k < l.length
  · rw [dif_pos hi, if_pos hi, List.length_set]
  · rw [dif_neg hi, if_neg hi, List.length_append]; rfl
theorem setA_find {l : List At2} {k v : ByteArray} (h : KeysOnce l) : ∃ x, findA (setA l k v) k = some x ∧ x.val = v := by
  have hm : (⟨if h : idxA l k < l.length then l[idxA l k].key else k, v⟩ : At2) ∈ setA l k v := by
    refine (setA_mem h _).2 (.inr ⟨?_, rfl, rfl⟩)
    dsimp only
    split
    · rename_i hi; exact idxA_key hi
    · rfl
  refine ⟨_, (findA_mem (setA_once h)).2 ⟨hm, ?_⟩, rfl⟩
  dsimp only
  split
  · rename_i hi; exact idxA_key hi
  · rfl
end Go.Proofs.Ytjebadadimejpaa
