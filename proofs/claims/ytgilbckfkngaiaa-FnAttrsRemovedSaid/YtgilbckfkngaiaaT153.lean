/- An attribute set: SetAttr. -/
import Derived.Test.YtgilbckfkngaiaaT147
import Derived.Test.YtgilbckfkngaiaaT154
import Derived.Maps.AppendAt
namespace Go.Proofs.Ytgilbckfkngaiaa
open Go.RowKit
set_option linter.unusedVariables false

/-- The pointer to the attribute of a key, by its place. -/
def Ptr2Post (l : List At2) (k : ByteArray) (aa : Option Addr) (w : World) (e : Ending) (w' : World) : Prop :=
  (if idxA l k < l.length then ∃ ab, aa = some ⟨ab, 0, none⟩ ∧ e = .returned (.pointer (some ⟨ab, idxA l k * 3, none⟩)) else e = .returned (.pointer none)) ∧ Below w.heap.size w w'

set_option maxRecDepth 100000 in
set_option maxHeartbeats 1000000 in
theorem attrPtr2_any (g B : Nat) (cs : Array Value) (l : List At2) (aa : Option Addr) (ac : Nat) (k : ByteArray) (w : World) (h9 : w.cell? ⟨g, 9, none⟩ = some (.slice aa l.length ac)) (hl : l.length ≤ 2147483647) (hg : g < w.heap.size)
    (hown : w.ownsRow B 123 3 (.slice aa l.length ac) l.length (flatA l)) :
    Calls Try.prog 103 #[.string k, .pointer (some ⟨g, 0, none⟩)] w (Ptr2Post l k aa w) := by
  have HO := Lib.hid hown
  clear hown
  go_enter Try.func103, Try.ntmps103
  go_wp2_with fail
  go_loopw [14] (fun x wr => ∃ k1 : Nat, k1 ≤ l.length ∧ x = .int .i64 k1 ∧ Hid (∀ j (h : j < l.length), j < k1 → (l[j].key.toList == k.toList) = false) ∧ Hid (Below w.heap.size w wr)) (fun x _ => l.length - (intOf x).toNat)
  case atStart => exact ⟨0, by omega, rfl, (fun j _ hj => by omega), Below.refl _ _⟩
  case round =>
    obtain ⟨i, hi, rfl, hno, hb⟩ := hrel
    by_cases hlt : i < l.length
    · obtain ⟨ab, rfl⟩ : ∃ ab, aa = some ⟨ab, 0, none⟩ := by
        rcases HO.out.2 with ⟨_, h0⟩ | ⟨q, cap, cur, hv, _⟩
        · omega
        · cases hv; exact ⟨q, rfl⟩
      have hab := (HO.out.lt ab rfl).2
      have hcell : ∀ j v, (flatA l)[j]? = some v → wr.cell? ⟨ab, j, none⟩ = some v := by
        intro j v hj
        have := HO.out.cells (g := ab) rfl j v hj
        rw [Addr.add_lit, Nat.zero_add] at this
        exact (hb.out.cell (p := ⟨ab, j, none⟩) hab).trans this
      obtain ⟨f0, f1, f2⟩ := flatA_at hlt
      have g0 := hcell _ _ f0
      have g1 := hcell _ _ f1
      have g2 := hcell _ _ f2
      have h9r := (hb.out.cell (p := ⟨g, 9, none⟩) hg).trans h9
      clear hcell f0 f1 f2
      obtain ⟨y, hy⟩ : ∃ y, y = l[i] := ⟨_, rfl⟩
      rw [← hy] at g1 g2
      have HY := Lib.hid hy
      clear hy
      have hsz := hb.out.size
      have h9a : (wr.alloc (.cells #[.string ⟨#[]⟩, .string y.key, .string y.val] 123)).cell? ⟨g, 9, none⟩ = some (.slice (some ⟨ab, 0, none⟩) l.length ac) := by
        rw [World.cell?_alloc_lt _ _ _ (by simp; omega)]
        exact h9r
      cases he : (y.key.toList == k.toList)
      · have HE := Lib.hid he
        go_wp2_with fail
        go_roundw
        case rel =>
          refine ⟨i + 1, by omega, by go_num, (fun j hj hj2 => ?_), ?_⟩
          · by_cases e : j = i
            · subst e; rw [← HY.out]; exact HE.out
            · exact hno.out j hj (by omega)
          · exact hb.out.alloc hsz _
        case measure => simp [intOf]; omega
      · have HE := Lib.hid he
        have HF : Hid (idxA l k = i) := by
          have e2 := HE.out
          rw [HY.out] at e2
          exact idxA_at hlt hno.out e2
        go_wp2_with fail
        go_ret
        refine ⟨?_, hb.out.alloc hsz _⟩
        rw [HF.out, if_pos hlt]
        exact ⟨ab, rfl, by first | rfl | simp⟩
    · have HF : Hid (idxA l k = l.length) := idxA_none (fun j hj => hno.out j hj (by omega))
      go_wp2_with fail
      go_ret
      refine ⟨?_, hb.out⟩
      rw [HF.out, if_neg (by omega)]
      try rfl

theorem new1of3 (W : World) (a b c : Value) (T : TypeId) : ∀ j u, [a, b, c][j]? = some u → (W.alloc (.cells #[a, b, c] T)).cell? ((⟨W.heap.size, 0, none⟩ : Addr).add j) = some u := by
  intro j u hj
  have e : (W.alloc (.cells #[a, b, c] T)).heap[W.heap.size]? = some (.cells #[a, b, c] T (0, 0)) := heap_alloc_new W (.cells #[a, b, c] T)
  rw [Addr.add_lit, Nat.zero_add, cell_of_row _ _ j _ _ _ e]
  rw [← hj]
  simp

theorem flatA_setv (v : ByteArray) : ∀ (l : List At2) (i : Nat) (h : i < l.length), flatA (l.set i ⟨l[i].key, v⟩) = (flatA l).set (i * 3 + 2) (.string v) := by
  intro l
  induction l with
  | nil => intro i h; simp at h
  | cons y l ih =>
    intro i h
    cases i with
    | zero => rfl
    | succ i =>
      rw [List.set_cons_succ, flatA_cons, List.getElem_cons_succ, ih i (by simpa using h), flatA_cons, show (i + 1) * 3 + 2 = i * 3 + 2 + 3 by omega]
      rfl

theorem set_world {l : List At2} {g ab cap : Nat} {cur : Array Value} {W : World} (h : ElB l g ab cap cur W) {i : Nat} (hi : i < l.length) (v : ByteArray) :
    ElA (l.set i ⟨l[i].key, v⟩) g (W.setCell ⟨ab, i * 3 + 2, none⟩ (.string v)) := by
  have hne : g ≠ ab := by have := h.base; omega
  have h1 := heap_setCell_same W ab (i * 3 + 2) _ _ (.string v) h.row
  refine ElB.el (ab := ab) (cap := cap) ⟨?_, h1, h.base, by rw [List.length_set]; exact h.le, h.max, by simp [h.size], ?_⟩
  · rw [heap_setCell_other _ _ _ _ hne, List.length_set]; exact h.blk
  · rw [flatA_setv v l i hi, ← h.take, List.length_set]
    simp [List.take_set]

set_option maxRecDepth 100000 in
set_option maxHeartbeats 4000000 in
theorem setAttr_any (l : List At2) (hl : l.length ≤ 900) (k v : ByteArray) (g gs : Nat) (w : World) (h : ElA l g w) (hs : SelOne g gs w) :
    Calls Try.prog 64 #[.pointer (some ⟨gs, 0, none⟩), .string k, .string v] w fun e w' => e = .returned (.pointer (some ⟨gs, 0, none⟩)) ∧ ElA (setA l k v) g w' ∧ Below g w w' := by
  obtain ⟨i0, hinf, hz0, hz1, hz2⟩ := info_parts Try.infoA
  have HEl := Lib.hid h
  obtain ⟨aa, ac, hblk, hown⟩ := h
  have hg : g < w.heap.size := (Array.getElem?_eq_some_iff.1 hblk).1
  have HP := Lib.hid (attrPtr2_any g (g + 1) #[] l aa ac k w (by rw [cell_of_row w _ 9 _ _ _ hblk]; rfl) (by omega) hg hown)
  have HBl := Lib.hid hblk
  have HOw := Lib.hid hown
  obtain ⟨r, hs1, hr⟩ := hs
  have c0 : w.cell? ⟨gs, 0, none⟩ = some (.slice (some ⟨r, 0, none⟩) 1 1) := cell_of_row w _ 0 _ _ _ hs1
  have c1 : w.cell? ⟨r, 0, none⟩ = some (.pointer (some ⟨g, 0, none⟩)) := cell_of_row w _ 0 _ _ _ hr
  clear hblk hown hs1 hr
  go_enter Try.func64, Try.ntmps64
  go_wp2_with fail
  go_loopw [15] (fun x wr => (x = .int .i64 0 ∧ w = wr) ∨ (x = .int .i64 1 ∧ Hid (ElA (setA l k v) g wr ∧ Below g w wr))) (fun x _ => 1 - (intOf x).toNat)
  case atStart => exact .inl ⟨rfl, rfl⟩
  case round =>
    rcases hrel with ⟨rfl, rfl⟩ | ⟨rfl, hfin⟩
    · go_wp2_with fail
      refine HP.out.mono ?_
      rintro e w1 ⟨h1, hb1⟩
      have HB1 := Lib.hid hb1
      clear hb1
      by_cases hx : idxA l k < l.length
      · rw [if_pos hx] at h1
        obtain ⟨ab, hae, rfl⟩ := h1
        obtain ⟨ab2, cap, cur, hB⟩ := HEl.out.blocks (by omega)
        have hB1 := hB.below HB1.out
        have he : ab2 = ab := by
          have e1 := HBl.out
          rw [hB.blk] at e1
          rw [hae] at e1
          simp at e1
          exact e1.1
        subst he
        obtain ⟨p0, p1, p2⟩ := hB1.cell hx
        have f2 : w1.frozen? ⟨ab2, idxA l k * 3 + 2, none⟩ = false := frozen_of_row w1 ab2 _ _ _ hB1.row
        have HF : Hid (ElA (setA l k v) g (w1.setCell ⟨ab2, idxA l k * 3 + 2, none⟩ (.string v)) ∧ Below g w (w1.setCell ⟨ab2, idxA l k * 3 + 2, none⟩ (.string v))) := by
          refine ⟨?_, (HB1.out.mono (Nat.le_of_lt hg)).setCell (by show g ≤ ab2; have := hB.base; omega) _⟩
          rw [setA_old hx]
          exact set_world hB1 hx v
        clear hae hB hB1
        go_wp2_with fail
        go_roundw
        case rel => exact .inr ⟨rfl, HF⟩
        case measure => simp [intOf]
      · rw [if_neg hx] at h1
        subst h1
        have hblk1 := (HB1.out.block _ hg).trans HBl.out
        have hg1 : g < w1.heap.size := (Array.getElem?_eq_some_iff.1 hblk1).1
        have hown1 := own_kept HOw.out (fun b _ hb => HB1.out.block b hb)
        have c9 : w1.cell? ⟨g, 9, none⟩ = some (.slice aa l.length ac) := by rw [cell_of_row w1 _ 9 _ _ _ hblk1]; rfl
        have HB := Lib.hid hblk1
        have HW := Lib.hid hown1
        have HSet : Hid (setA l k v = l ++ [⟨k, v⟩]) := setA_new hx
        clear hblk1 hown1
        have HN := Lib.hid (new1of3 w1 (.string ⟨#[]⟩) (.string k) (.string v) 123)
        go_wp2_with (at_builtin; refine wpList_append_own _ rfl _ _ 119 rfl (g + 1) 123 i0 (.agg #[.string ⟨#[]⟩, .string ⟨#[]⟩, .string ⟨#[]⟩]) 3 48 Try.underlying119 hinf hz0 hz1 hz2 rfl (by decide) (.slice aa l.length ac) l.length (flatA l) rfl (HW.out.alloc _) ⟨w1.heap.size, 0, none⟩ 1 1 [.string ⟨#[]⟩, .string k, .string v] rfl rfl HN.out (by intro u hu; simp at hu; rcases hu with rfl | rfl | rfl <;> rfl) (by unfold maxLen; omega) (by omega) (by simp; omega) ?_)
        intro v' w3 hown' hgrow _
        obtain ⟨a3, c3', hv2⟩ := own_slice hown'
        rw [hv2] at hown' ⊢
        have hne : some g ≠ (Value.slice aa l.length ac).ownBlock := fun e => by have := (HW.out.lt _ e.symm).1; omega
        have hk1 : w3.heap[g]? = some (.cells #[.pointer none, .pointer none, .pointer none, .pointer none, .pointer none, .int .u32 3, .int .u32 0, .string tagA, .string ⟨#[]⟩, .slice aa l.length ac] 121 (0, 0)) := by
          rw [hgrow.block g (by simp; omega) hne, Below.heap_alloc _ _ _ hg1]
          exact HB.out
        have hb3 : Below g w w3 := ((HB1.out.mono (Nat.le_of_lt hg)).alloc (by omega) _).grown hgrow (by simp; omega) (fun q hq => by have := (HW.out.lt q hq).1; omega)
        have d9 := cell_of_row w3 _ 9 _ _ _ hk1
        have e9 := frozen_of_row w3 _ 9 _ _ hk1
        have HF : Hid (ElA (setA l k v) g (w3.setCell ⟨g, 9, none⟩ (.slice a3 (l.length + 1) c3')) ∧ Below g w (w3.setCell ⟨g, 9, none⟩ (.slice a3 (l.length + 1) c3'))) := by
          refine ⟨?_, hb3.setCell (Nat.le_refl _) _⟩
          rw [HSet.out]
          refine ⟨a3, c3', ?_, ?_⟩
          · have := heap_setCell_same w3 g 9 _ _ (.slice a3 (l.length + 1) c3') hk1
            simpa using this
          · rw [flatA_snoc, List.length_append]
            exact ownsRow_setCell_below hown' (by simp) _
        clear hown' hgrow hv2 hk1 hb3 hne c9
        go_wp2_with fail
        go_roundw
        case rel => exact .inr ⟨rfl, HF⟩
        case measure => simp [intOf]
    · go_wp2_with fail
      go_ret
      exact ⟨rfl, hfin.out⟩
end Go.Proofs.Ytgilbckfkngaiaa
