/- Taking an attribute away: removeAttr, RemoveAttr. -/
import Derived.Test.YtjebadadimejpaaT146
import Derived.BigRegion
namespace Go.Proofs.Ytjebadadimejpaa
open Go.RowKit
set_option linter.unusedVariables false

theorem flatA_len (l : List At2) : (flatA l).length = l.length * 3 := by
  induction l with
  | nil => rfl
  | cons x l ih => show ([_, _, _] ++ flatA l).length = _; rw [List.length_append, ih, List.length_cons]; simp; omega
theorem flatA_cons (x : At2) (l : List At2) : flatA (x :: l) = .string ⟨#[]⟩ :: .string x.key :: .string x.val :: flatA l := rfl
theorem flatA_set (x : At2) : ∀ (l : List At2) (i : Nat), flatA (l.set i x) = (((flatA l).set (i * 3) (.string ⟨#[]⟩)).set (i * 3 + 1) (.string x.key)).set (i * 3 + 2) (.string x.val) := by
  intro l
  induction l with
  | nil => intro i; rfl
  | cons y l ih =>
    intro i
    cases i with
    | zero => rfl
    | succ i =>
      rw [List.set_cons_succ, flatA_cons, flatA_cons, ih, show (i + 1) * 3 = i * 3 + 3 by omega]
      rfl
theorem flatA_take : ∀ (l : List At2) (m : Nat), flatA (l.take m) = (flatA l).take (m * 3) := by
  intro l
  induction l with
  | nil => intro m; simp [flatA]
  | cons y l ih =>
    intro m
    cases m with
    | zero => rw [Nat.zero_mul]; rfl
    | succ m =>
      rw [List.take_succ_cons, flatA_cons, flatA_cons, ih, show (m + 1) * 3 = m * 3 + 3 by omega]
      rfl
theorem rmA_cut {l : List At2} {k : ByteArray} {m : Nat} (h : l.length = m + 1) (hi : idxA l k < l.length) : rmA l k = (l.take m).set (idxA l k) (l[m]'(by omega)) := by
  obtain ⟨i, hie⟩ : ∃ i, i = idxA l k := ⟨_, rfl⟩
  unfold rmA
  rw [if_pos hi]
  rw [← hie] at hi ⊢
  by_cases e : i = m
  · subst e
    rw [List.drop_of_length_le (by omega), rotL_nil, List.append_nil, List.set_eq_of_length_le (by rw [List.length_take]; omega)]
  · have hd : l.drop (i + 1) = (l.take m).drop (i + 1) ++ [l[m]'(by omega)] := by
      have : l = l.take m ++ [l[m]'(by omega)] := by
        have h1 : l.take (m + 1) = l := List.take_of_length_le (by omega)
        rw [← List.take_succ_eq_append_getElem (by omega), h1]
      conv => lhs; rw [this]
      rw [List.drop_append_of_le_length (by rw [List.length_take]; omega)]
    rw [hd, rotL_snoc, List.set_eq_take_append_cons_drop, if_pos (by rw [List.length_take]; omega), List.take_take, Nat.min_eq_left (by omega)]

/-- An element's two blocks, as they lie. -/
structure ElB (l : List At2) (g ab cap : Nat) (cur : Array Value) (w : World) : Prop where
  blk : w.heap[g]? = some (.cells #[.pointer none, .pointer none, .pointer none, .pointer none, .pointer none, .int .u32 3, .int .u32 0, .string tagA, .string ⟨#[]⟩, .slice (some ⟨ab, 0, none⟩) l.length cap] 54 (0, 0))
  row : w.heap[ab]? = some (.cells cur 56 (0, 0))
  base : g + 1 ≤ ab
  le : l.length ≤ cap
  max : cap ≤ maxLen
  size : cur.size = cap * 3
  take : cur.toList.take (l.length * 3) = flatA l
theorem ElB.el {l : List At2} {g ab cap : Nat} {cur : Array Value} {w : World} (h : ElB l g ab cap cur w) : ElA l g w :=
  ⟨some ⟨ab, 0, none⟩, cap, h.blk, flatA_len l, .inr ⟨ab, cap, cur, rfl, h.base, h.row, h.le, h.max, h.size, h.take⟩⟩
theorem ElA.blocks {l : List At2} {g : Nat} {w : World} (h : ElA l g w) (hl : 0 < l.length) : ∃ ab cap cur, ElB l g ab cap cur w := by
  obtain ⟨aa, ac, h1, h2, h3⟩ := h
  rcases h3 with ⟨_, h0⟩ | ⟨ab, cap, cur, hv, q0, q1, q2, q3, q4, q5⟩
  · omega
  · cases hv
    exact ⟨ab, ac, cur, h1, q1, q0, q2, q3, q4, q5⟩
theorem ElB.cell {l : List At2} {g ab cap : Nat} {cur : Array Value} {w : World} (h : ElB l g ab cap cur w) {i : Nat} (hi : i < l.length) :
    w.cell? ⟨ab, i * 3, none⟩ = some (.string ⟨#[]⟩) ∧ w.cell? ⟨ab, i * 3 + 1, none⟩ = some (.string l[i].key) ∧ w.cell? ⟨ab, i * 3 + 2, none⟩ = some (.string l[i].val) := by
  obtain ⟨f0, f1, f2⟩ := flatA_at hi
  have hc : ∀ j v, j < l.length * 3 → (flatA l)[j]? = some v → w.cell? ⟨ab, j, none⟩ = some v := by
    intro j v hj hv
    rw [cell_of_row w ab j _ _ _ h.row]
    rw [← h.take, List.getElem?_take_of_lt hj] at hv
    simpa using hv
  exact ⟨hc _ _ (by omega) f0, hc _ _ (by omega) f1, hc _ _ (by omega) f2⟩
theorem ElB.alloc {l : List At2} {g ab cap : Nat} {cur : Array Value} {w : World} (h : ElB l g ab cap cur w) (o : Obj) : ElB l g ab cap cur (w.alloc o) :=
  ⟨by rw [Below.heap_alloc _ _ _ (Array.getElem?_eq_some_iff.1 h.blk).1]; exact h.blk, by rw [Below.heap_alloc _ _ _ (Array.getElem?_eq_some_iff.1 h.row).1]; exact h.row, h.base, h.le, h.max, h.size, h.take⟩
theorem ElB.below {l : List At2} {g ab cap : Nat} {cur : Array Value} {w w' : World} (h : ElB l g ab cap cur w) (hb : Below w.heap.size w w') : ElB l g ab cap cur w' :=
  ⟨(hb.block _ (Array.getElem?_eq_some_iff.1 h.blk).1).trans h.blk, (hb.block _ (Array.getElem?_eq_some_iff.1 h.row).1).trans h.row, h.base, h.le, h.max, h.size, h.take⟩

def RmPost (l : List At2) (g : Nat) (w : World) (e : Ending) (w' : World) : Prop := e = .returned (.tuple #[]) ∧ ElA l g w' ∧ Below g w w'

theorem rm_take {cur : List Value} {l : List At2} {m i : Nat} {z : At2} (hl : l.length = m + 1) (h : cur.take (l.length * 3) = flatA l) (a b c : Value) :
    ((((((cur.set (i * 3) (.string ⟨#[]⟩)).set (i * 3 + 1) (.string z.key)).set (i * 3 + 2) (.string z.val)).set (m * 3) a).set (m * 3 + 1) b).set (m * 3 + 2) c).take (m * 3) = flatA ((l.take m).set i z) := by
  have h0 : cur.take (m * 3) = flatA (l.take m) := by
    rw [flatA_take, ← h, List.take_take, Nat.min_eq_left (by omega)]
  rw [List.take_set, List.take_set, List.take_set, List.take_set, List.take_set, List.take_set, h0, flatA_set]
  have hn : (flatA (l.take m)).length = m * 3 := by rw [flatA_len, List.length_take]; omega
  rw [List.set_eq_of_length_le (i := m * 3 + 2) (by simp [hn]), List.set_eq_of_length_le (i := m * 3 + 1) (by simp [hn]), List.set_eq_of_length_le (i := m * 3) (by simp [hn])]

/-- The world that the removal leaves. -/
def rmW (W : World) (g ab i m cap : Nat) (z : At2) : World :=
  (((((((W.setCell ⟨ab, i * 3, none⟩ (.string ⟨#[]⟩)).setCell ⟨ab, i * 3 + 1, none⟩ (.string z.key)).setCell ⟨ab, i * 3 + 2, none⟩ (.string z.val)).setCell ⟨ab, m * 3, none⟩ (.string ⟨#[]⟩)).setCell ⟨ab, m * 3 + 1, none⟩ (.string ⟨#[]⟩)).setCell ⟨ab, m * 3 + 2, none⟩ (.string ⟨#[]⟩)).setCell ⟨g, 9, none⟩ (.slice (some ⟨ab, 0, none⟩) m cap)).drew

set_option maxHeartbeats 2000000 in
theorem rm_world {l : List At2} {g ab cap : Nat} {cur : Array Value} {W : World} (h : ElB l g ab cap cur W) {m i : Nat} (hl : l.length = m + 1) (z : At2) :
    ElA ((l.take m).set i z) g (rmW W g ab i m cap z) := by
  have hlen : ((l.take m).set i z).length = m := by rw [List.length_set, List.length_take]; omega
  have hne : g ≠ ab := by have := h.base; omega
  have h1 := heap_setCell_same W ab (i * 3) _ _ (.string ⟨#[]⟩) h.row
  have h2 := heap_setCell_same _ ab (i * 3 + 1) _ _ (.string z.key) h1
  have h3 := heap_setCell_same _ ab (i * 3 + 2) _ _ (.string z.val) h2
  have h4 := heap_setCell_same _ ab (m * 3) _ _ (.string ⟨#[]⟩) h3
  have h5 := heap_setCell_same _ ab (m * 3 + 1) _ _ (.string ⟨#[]⟩) h4
  have h6 := heap_setCell_same _ ab (m * 3 + 2) _ _ (.string ⟨#[]⟩) h5
  have hg : ∀ (V : World) (j : Nat) (u : Value), (V.setCell ⟨ab, j, none⟩ u).heap[g]? = V.heap[g]? := fun V j u => heap_setCell_other _ _ _ _ hne
  have g6 : ((((((W.setCell ⟨ab, i * 3, none⟩ (.string ⟨#[]⟩)).setCell ⟨ab, i * 3 + 1, none⟩ (.string z.key)).setCell ⟨ab, i * 3 + 2, none⟩ (.string z.val)).setCell ⟨ab, m * 3, none⟩ (.string ⟨#[]⟩)).setCell ⟨ab, m * 3 + 1, none⟩ (.string ⟨#[]⟩)).setCell ⟨ab, m * 3 + 2, none⟩ (.string ⟨#[]⟩)).heap[g]? = W.heap[g]? := by
    rw [hg, hg, hg, hg, hg, hg]
  have g7 := heap_setCell_same _ g 9 _ _ (.slice (some ⟨ab, 0, none⟩) m cap) (g6.trans h.blk)
  have r7 := (heap_setCell_other _ ⟨g, 9, none⟩ ab (.slice (some ⟨ab, 0, none⟩) m cap) (fun e => hne e.symm)).trans h6
  have e7 : (rmW W g ab i m cap z).heap[g]? = some (.cells #[.pointer none, .pointer none, .pointer none, .pointer none, .pointer none, .int .u32 3, .int .u32 0, .string tagA, .string ⟨#[]⟩, .slice (some ⟨ab, 0, none⟩) m cap] 54 (0, 0)) := by
    unfold rmW
    rw [heap_drew, g7]
    simp
  obtain ⟨cur', hcur⟩ : ∃ x : Array Value, x = (((((cur.setIfInBounds (i * 3) (.string ⟨#[]⟩)).setIfInBounds (i * 3 + 1) (.string z.key)).setIfInBounds (i * 3 + 2) (.string z.val)).setIfInBounds (m * 3) (.string ⟨#[]⟩)).setIfInBounds (m * 3 + 1) (.string ⟨#[]⟩)).setIfInBounds (m * 3 + 2) (.string ⟨#[]⟩) := ⟨_, rfl⟩
  have r8 : (rmW W g ab i m cap z).heap[ab]? = some (.cells cur' 56 (0, 0)) := by
    unfold rmW
    rw [heap_drew, r7, hcur]
    try rfl
  refine ElB.el (ab := ab) (cap := cap) ⟨by rw [hlen]; exact e7, r8, h.base, by have := h.le; omega, h.max, ?_, ?_⟩
  · rw [hcur]; simp [h.size]
  · rw [hlen, hcur]
    have := rm_take (i := i) (z := z) hl h.take (.string ⟨#[]⟩) (.string ⟨#[]⟩) (.string ⟨#[]⟩)
    simpa using this
end Go.Proofs.Ytjebadadimejpaa
