/- An attribute set: SetAttr. -/
import Derived.Test.YtjebadadimejpaaT147
import Derived.Test.YtjebadadimejpaaT154
import Derived.Maps.AppendAt
namespace Go.Proofs.Ytjebadadimejpaa
open Go.RowKit
set_option linter.unusedVariables false

/-- The pointer to the attribute of a key, by its place. -/
def Ptr2Post (l : List At2) (k : ByteArray) (aa : Option Addr) (w : World) (e : Ending) (w' : World) : Prop :=
  (if idxA l k < l.length then ∃ ab, aa = some ⟨ab, 0, none⟩ ∧ e = .returned (.pointer (some ⟨ab, idxA l k * 3, none⟩)) else e = .returned (.pointer none)) ∧ Below w.heap.size w w'

set_option maxRecDepth 100000 in
set_option maxHeartbeats 1000000 in
theorem attrPtr2_any (g B : Nat) (cs : Array Value) (l : List At2) (aa : Option Addr) (ac : Nat) (k : ByteArray) (w : World) (h9 : w.cell? ⟨g, 9, none⟩ = some (.slice aa l.length ac)) (hl : l.length ≤ 2147483647) (hg : g < w.heap.size)
    (hown : w.ownsRow B 56 3 (.slice aa l.length ac) l.length (flatA l)) :
    Calls Try.prog 40 #[.string k, .pointer (some ⟨g, 0, none⟩)] w (Ptr2Post l k aa w) := by
  have HO := Lib.hid hown
  clear hown
  go_enter Try.func40, Try.ntmps40
  go_wp2_with fail
  go_loopw [14] (fun x wr => ∃ k1 : Nat, k1 ≤ l.length ∧ x = .int .i64 k1 ∧ Hid (∀ j (h : j < l.length), j < k1 → (l[j].key.toList == k.toList) = false) ∧ Hid (Below w.heap.size w wr)) (fun x _ => l.length - (intOf x).toNat)
  case atStart => exact ⟨0, by omega, rfl, (fun j _ hj => by omega), Below.refl _ _⟩
  case round =>
    obtain ⟨i, hi, rfl, hno, hb⟩ := hrel
    by_cases hlt : i < l.length
    · obtain ⟨ab, rfl⟩ : ∃ ab, aa = some ⟨ab, 0, none⟩ := by
        rcases HO.out.2 with ⟨_, h0⟩ | ⟨q, cap, cur, hv, _⟩
        · omega
        · cases hv; exact ⟨q, rfl⟩
      have hab := (HO.out.lt ab rfl).2
      have hcell : ∀ j v, (flatA l)[j]? = some v → wr.cell? ⟨ab, j, none⟩ = some v := by
        intro j v hj
        have := HO.out.cells (g := ab) rfl j v hj
        rw [Addr.add_lit, Nat.zero_add] at this
        exact (hb.out.cell (p := ⟨ab, j, none⟩) hab).trans this
      obtain ⟨f0, f1, f2⟩ := flatA_at hlt
      have g0 := hcell _ _ f0
      have g1 := hcell _ _ f1
      have g2 := hcell _ _ f2
      have h9r := (hb.out.cell (p := ⟨g, 9, none⟩) hg).trans h9
      clear hcell f0 f1 f2
      obtain ⟨y, hy⟩ : ∃ y, y = l[i] := ⟨_, rfl⟩
      rw [← hy] at g1 g2
      have HY := Lib.hid hy
      clear hy
      have hsz := hb.out.size
      have h9a : (wr.alloc (.cells #[.string ⟨#[]⟩, .string y.key, .string y.val] 56)).cell? ⟨g, 9, none⟩ = some (.slice (some ⟨ab, 0, none⟩) l.length ac) := by
        rw [World.cell?_alloc_lt _ _ _ (by simp; omega)]
        exact h9r
      cases he : (y.key.toList == k.toList)
      · have HE := Lib.hid he
        go_wp2_with fail
        go_roundw
        case rel =>
          refine ⟨i + 1, by omega, by go_num, (fun j hj hj2 => ?_), ?_⟩
          · by_cases e : j = i
            · subst e; rw [← HY.out]; exact HE.out
            · exact hno.out j hj (by omega)
          · exact hb.out.alloc hsz _
        case measure => simp [intOf]; omega
      · have HE := Lib.hid he
        have HF : Hid (idxA l k = i) := by
          have e2 := HE.out
          rw [HY.out] at e2
          exact idxA_at hlt hno.out e2
        go_wp2_with fail
        go_ret
        refine ⟨?_, hb.out.alloc hsz _⟩
        rw [HF.out, if_pos hlt]
        exact ⟨ab, rfl, by first | rfl | simp⟩
    · have HF : Hid (idxA l k = l.length) := idxA_none (fun j hj => hno.out j hj (by omega))
      go_wp2_with fail
      go_ret
      refine ⟨?_, hb.out⟩
      rw [HF.out, if_neg (by omega)]
      try rfl

theorem new1of3 (W : World) (a b c : Value) (T : TypeId) : ∀ j u, [a, b, c][j]? = some u → (W.alloc (.cells #[a, b, c] T)).cell? ((⟨W.heap.size, 0, none⟩ : Addr).add j) = some u := by
  intro j u hj
  have e : (W.alloc (.cells #[a, b, c] T)).heap[W.heap.size]? = some (.cells #[a, b, c] T (0, 0)) := heap_alloc_new W (.cells #[a, b, c] T)
  rw [Addr.add_lit, Nat.zero_add, cell_of_row _ _ j _ _ _ e]
  rw [← hj]
  simp

theorem flatA_setv (v : ByteArray) : ∀ (l : List At2) (i : Nat) (h : i < l.length), flatA (l.set i ⟨l[i].key, v⟩) = (flatA l).set (i * 3 + 2) (.string v) := by
  intro l
  induction l with
  | nil => intro i h; simp at h
  | cons y l ih =>
    intro i h
    cases i with
    | zero => rfl
    | succ i =>
      rw [List.set_cons_succ, flatA_cons, List.getElem_cons_succ, ih i (by simpa using h), flatA_cons, show (i + 1) * 3 + 2 = i * 3 + 2 + 3 by omega]
      rfl

theorem set_world {l : List At2} {g ab cap : Nat} {cur : Array Value} {W : World} (h : ElB l g ab cap cur W) {i : Nat} (hi : i < l.length) (v : ByteArray) :
    ElA (l.set i ⟨l[i].key, v⟩) g (W.setCell ⟨ab, i * 3 + 2, none⟩ (.string v)) := by
  have hne : g ≠ ab := by have := h.base; omega
  have h1 := heap_setCell_same W ab (i * 3 + 2) _ _ (.string v) h.row
  refine ElB.el (ab := ab) (cap := cap) ⟨?_, h1, h.base, by rw [List.length_set]; exact h.le, h.max, by simp [h.size], ?_⟩
  · rw [heap_setCell_other _ _ _ _ hne, List.length_set]; exact h.blk
  · rw [flatA_setv v l i hi, ← h.take, List.length_set]
    simp [List.take_set]

end Go.Proofs.Ytjebadadimejpaa
