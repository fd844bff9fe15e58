/- What is read off an element: kindOf, attrs. -/
import Derived.Test.YtjebadadimejpaaT145
import Derived.Laws.AppendOwn
import Derived.Maps.AppendAt
namespace Go.Proofs.Ytjebadadimejpaa
open Go.RowKit
set_option linter.unusedVariables false

theorem Try.infoAt : (Try.prog.info? 35).map (fun i => (i.zero, i.size, i.bytes)) = some (some (.agg #[.string ⟨#[]⟩, .string ⟨#[]⟩]), 2, 32) := by kernel_rfl

/-- Attributes as the list has them: the key, the value. -/
def flat2 (l : List At2) : List Value := l.flatMap fun x => [.string x.key, .string x.val]
theorem flat2_snoc (l : List At2) (x : At2) : flat2 (l ++ [x]) = flat2 l ++ [.string x.key, .string x.val] := by simp [flat2]
theorem flat2_at {l : List At2} : ∀ {i : Nat} (hi : i < l.length), (flat2 l)[i * 2]? = some (.string l[i].key) ∧ (flat2 l)[i * 2 + 1]? = some (.string l[i].val) := by
  induction l with
  | nil => intro i hi; simp at hi
  | cons x l ih =>
    intro i hi
    cases i with
    | zero => exact ⟨rfl, rfl⟩
    | succ i =>
      have := ih (i := i) (by simpa using hi)
      rw [show (i + 1) * 2 = i * 2 + 2 by omega]
      exact this

theorem new2c (W : World) (O : Obj) (a b : Value) (T : TypeId) : ∀ j u, [a, b][j]? = some u → ((W.alloc O).alloc (.cells #[a, b] T)).cell? ((⟨W.heap.size + 1, 0, none⟩ : Addr).add j) = some u := by
  intro j u hj
  have e : ((W.alloc O).alloc (.cells #[a, b] T)).heap[W.heap.size + 1]? = some (.cells #[a, b] T (0, 0)) := by
    have := heap_alloc_new (W.alloc O) (.cells #[a, b] T)
    simpa using this
  rw [Addr.add_lit, Nat.zero_add, cell_of_row _ _ j _ _ _ e]
  rw [← hj]
  simp

/-- A row of the call's own, as the list of attributes that it holds. -/
theorem asl_own {w : World} {B : Nat} {a : Option Addr} {c : Nat} {l : List At2} (h : w.ownsRow B 35 2 (.slice a l.length c) l.length (flat2 l)) (hm : l.length ≤ maxLen) (hs : ∀ x ∈ l, x.key.size ≤ maxLen ∧ x.val.size ≤ maxLen) : ASl w w.heap.size a l := by
  refine ⟨hm, hs, ?_⟩
  rcases h.2 with ⟨_, h0⟩ | ⟨g, cap, cur, hv, _⟩
  · exact .inl (List.eq_nil_of_length_eq_zero h0)
  · cases hv
    refine .inr ⟨g, 0, rfl, (h.lt g rfl).2, fun i hi => ?_⟩
    obtain ⟨f0, f1⟩ := flat2_at hi
    have g0 := h.cells (g := g) rfl _ _ f0
    have g1 := h.cells (g := g) rfl _ _ f1
    rw [Addr.add_lit] at g0 g1
    rw [List.getD_eq_getElem?_getD, List.getElem?_eq_getElem hi, Option.getD_some]
    exact ⟨g0, g1⟩

def AtsPost (l : List At2) (w : World) (e : Ending) (w' : World) : Prop :=
  ∃ a c, e = .returned (.slice a l.length c) ∧ w'.ownsRow w.heap.size 35 2 (.slice a l.length c) l.length (flat2 l) ∧ Below w.heap.size w w'
def KindPost (l : List At2) (w : World) (e : Ending) (w' : World) : Prop :=
  ∃ a c, e = .returned (.agg #[.int .i64 3, .string tagA, .string ⟨#[]⟩, .slice a l.length c, .int .i64 0]) ∧ w'.ownsRow w.heap.size 35 2 (.slice a l.length c) l.length (flat2 l) ∧ Below w.heap.size w w'

set_option maxRecDepth 100000 in
set_option maxHeartbeats 2000000 in
theorem kindOf_el (l : List At2) (hl : l.length ≤ 1000) (g : Nat) (w : World) (h : ElA l g w) :
    Calls Try.prog 34 #[.pointer (some ⟨g, 0, none⟩)] w (KindPost l w) := by
  obtain ⟨i0, hinf, hz0, hz1, hz2⟩ := info_parts Try.infoAt
  obtain ⟨aa, ac, hblk, hown⟩ := h
  have hg : g < w.heap.size := (Array.getElem?_eq_some_iff.1 hblk).1
  have c5 : w.cell? ⟨g, 5, none⟩ = some (.int .u32 3) := cell_of_row w _ 5 _ _ _ hblk
  have c7 : w.cell? ⟨g, 7, none⟩ = some (.string tagA) := cell_of_row w _ 7 _ _ _ hblk
  have c9 : w.cell? ⟨g, 9, none⟩ = some (.slice aa l.length ac) := cell_of_row w _ 9 _ _ _ hblk
  have HO := Lib.hid hown
  clear hblk hown
  go_enter Try.func34, Try.ntmps34
  go_wp2_with fail
  go_loopw [46] (fun y wr => ∃ (k : Nat) (av : Option Addr) (cv : Nat), k ≤ l.length ∧ y = .int .i64 k ∧
      wr.heap[w.heap.size + 1]? = some (.cells #[.int .i64 3, .string tagA, .string ⟨#[]⟩, .slice av k cv, .int .i64 0] 40 (0, 0)) ∧
      wr.heap[w.heap.size]? = some (.cells #[.int .i64 0, .string ⟨#[]⟩, .string ⟨#[]⟩, .slice none 0 0, .int .i64 0] 40 (0, 0)) ∧
      wr.ownsRow (w.heap.size + 2) 35 2 (.slice av k cv) k (flat2 (l.take k)) ∧ Below w.heap.size w wr) (fun y _ => l.length - (intOf y).toNat)
  case atStart =>
    refine ⟨0, none, 0, by omega, rfl, ?_, ?_, World.ownsRow_nil _ _ _ _, ((Below.refl _ _).alloc (Nat.le_refl _) _).alloc (by simp) _⟩
    · have := heap_alloc_new (w.alloc (.cells #[.int .i64 0, .string ⟨#[]⟩, .string ⟨#[]⟩, .slice none 0 0, .int .i64 0] 40)) (.cells #[.int .i64 3, .string tagA, .string ⟨#[]⟩, .slice none 0 0, .int .i64 0] 40)
      simpa using this
    · rw [Below.heap_alloc _ _ _ (by simp), heap_alloc_new]
  case round =>
    obtain ⟨k, av, cv, hk, rfl, hblk, hres, hrow, hb⟩ := hrel
    have HB := Lib.hid hb
    have HW := Lib.hid hrow
    have HBl := Lib.hid hblk
    have HRs := Lib.hid hres
    have hsz : w.heap.size + 1 < wr.heap.size := (Array.getElem?_eq_some_iff.1 hblk).1
    by_cases hlt : k < l.length
    · obtain ⟨ab, rfl⟩ : ∃ ab, aa = some ⟨ab, 0, none⟩ := by
        rcases HO.out.2 with ⟨_, h0⟩ | ⟨q, cap, cur, hv, _⟩
        · omega
        · cases hv; exact ⟨q, rfl⟩
      have hab := (HO.out.lt ab rfl).2
      have hcell : ∀ j v, (flatA l)[j]? = some v → wr.cell? ⟨ab, j, none⟩ = some v := by
        intro j v hj
        have := HO.out.cells (g := ab) rfl j v hj
        rw [Addr.add_lit, Nat.zero_add] at this
        exact (hb.cell (p := ⟨ab, j, none⟩) hab).trans this
      obtain ⟨f0, f1, f2⟩ := flatA_at hlt
      have g0 := hcell _ _ f0
      have g1 := hcell _ _ f1
      have g2 := hcell _ _ f2
      obtain ⟨y, hy⟩ : ∃ y, y = l[k] := ⟨_, rfl⟩
      have HY : Hid (l.take (k + 1) = l.take k ++ [y]) := by rw [Hid, List.take_succ_eq_append_getElem hlt, hy]
      rw [← hy] at g1 g2
      have c3 : wr.cell? ⟨w.heap.size + 1, 3, none⟩ = some (.slice av k cv) := cell_of_row wr _ 3 _ _ _ hblk
      clear hcell f0 f1 f2 hy hblk hres hrow hb
      have HN := Lib.hid (new2c wr (.cells #[.string ⟨#[]⟩, .string y.key, .string y.val] 56) (.string y.key) (.string y.val) 35)
      go_wp2_with (at_builtin; refine wpList_append_own _ rfl _ _ 22 rfl (w.heap.size + 2) 35 i0 (.agg #[.string ⟨#[]⟩, .string ⟨#[]⟩]) 2 32 Try.underlying22 hinf hz0 hz1 hz2 rfl (by decide) (.slice av k cv) k (flat2 (l.take k)) rfl ((HW.out.alloc _).alloc _) ⟨wr.heap.size + 1, 0, none⟩ 1 1 [.string y.key, .string y.val] rfl rfl HN.out (by intro u hu; simp at hu; rcases hu with rfl | rfl <;> rfl) (by unfold maxLen; omega) (by omega) (by simp; omega) ?_)
      intro v' w3 hown' hgrow _
      obtain ⟨a3, c3', hv2⟩ := own_slice hown'
      rw [hv2] at hown' ⊢
      have hne1 : some (w.heap.size + 1) ≠ (Value.slice av k cv).ownBlock := fun e => by have := (HW.out.lt _ e.symm).1; omega
      have hne0 : some w.heap.size ≠ (Value.slice av k cv).ownBlock := fun e => by have := (HW.out.lt _ e.symm).1; omega
      have hk1 : w3.heap[w.heap.size + 1]? = some (.cells #[.int .i64 3, .string tagA, .string ⟨#[]⟩, .slice av k cv, .int .i64 0] 40 (0, 0)) := by
        rw [hgrow.block (w.heap.size + 1) (by simp; omega) hne1, Below.heap_alloc _ _ _ (by simp; omega), Below.heap_alloc _ _ _ hsz]
        exact HBl.out
      have hk0 : w3.heap[w.heap.size]? = some (.cells #[.int .i64 0, .string ⟨#[]⟩, .string ⟨#[]⟩, .slice none 0 0, .int .i64 0] 40 (0, 0)) := by
        rw [hgrow.block w.heap.size (by simp; omega) hne0, Below.heap_alloc _ _ _ (by simp; omega), Below.heap_alloc _ _ _ (by omega)]
        exact HRs.out
      have hb1 : Below w.heap.size w w3 := ((HB.out.alloc HB.out.size _).alloc (by simp; omega) _).grown hgrow (by simp; omega) (fun q hq => by have := (HW.out.lt q hq).1; omega)
      have d3 := cell_of_row w3 _ 3 _ _ _ hk1
      have e3 := frozen_of_row w3 _ 3 _ _ hk1
      have HK1 := Lib.hid hk1
      have HK0 := Lib.hid hk0
      have HB1 := Lib.hid hb1
      have HO1 : Hid (w3.ownsRow (w.heap.size + 2) 35 2 (.slice a3 (k + 1) c3') (k + 1) (flat2 (l.take (k + 1)))) := by
        rw [Hid, HY.out, flat2_snoc]; exact hown'
      clear hown' hgrow hv2 hk1 hk0 hb1 hne1 hne0 c3
      go_wp2_with fail
      go_roundw
      case rel =>
        refine ⟨k + 1, a3, c3', by omega, by go_num, ?_, ?_, ownsRow_setCell_below HO1.out (by simp) _, HB1.out.setCell (by simp) _⟩
        · have := heap_setCell_same w3 (w.heap.size + 1) 3 _ _ (.slice a3 (k + 1) c3') HK1.out
          simpa using this
        · rw [heap_setCell_other _ _ _ _ (by simp)]
          exact HK0.out
      case measure => simp [intOf]; omega
    · have e : k = l.length := by omega
      subst e
      rw [List.take_length] at hrow HW
      have e0 := cell_of_row wr _ 0 _ _ _ hblk
      have r0 := cell_of_row wr _ 0 _ _ _ hres
      have f0 := frozen_of_row wr _ 0 _ _ hres
      have e1 := cell_of_row wr _ 1 _ _ _ hblk
      have r1 := cell_of_row wr _ 1 _ _ _ hres
      have f1 := frozen_of_row wr _ 1 _ _ hres
      have e2 := cell_of_row wr _ 2 _ _ _ hblk
      have r2 := cell_of_row wr _ 2 _ _ _ hres
      have f2 := frozen_of_row wr _ 2 _ _ hres
      have e3 := cell_of_row wr _ 3 _ _ _ hblk
      have r3 := cell_of_row wr _ 3 _ _ _ hres
      have f3 := frozen_of_row wr _ 3 _ _ hres
      have e4 := cell_of_row wr _ 4 _ _ _ hblk
      have r4 := cell_of_row wr _ 4 _ _ _ hres
      have f4 := frozen_of_row wr _ 4 _ _ hres
      simp only [List.getElem?_toArray, List.getElem?_cons_zero, List.getElem?_cons_succ] at e0 e1 e2 e3 e4 r0 r1 r2 r3 r4
      clear hb hblk hres hrow
      go_wp2_with fail
      have h0 := heap_setCell_same wr w.heap.size 0 _ _ (.int .i64 3) HRs.out
      have h1 := heap_setCell_same _ w.heap.size 1 _ _ (.string tagA) h0
      have h2 := heap_setCell_same _ w.heap.size 2 _ _ (.string ⟨#[]⟩) h1
      have h3 := heap_setCell_same _ w.heap.size 3 _ _ (.slice av l.length cv) h2
      have h4 := heap_setCell_same _ w.heap.size 4 _ _ (.int .i64 0) h3
      simp only [List.setIfInBounds_toArray, List.set_cons_zero, List.set_cons_succ] at h4
      (try simp only [Exit.inBlock, Exit.then])
      refine bodyPost_ret (results_cell_row rfl _ _ w.heap.size _ _ _ _ rfl h4 Try.underlying40 rfl (by kernel_rfl)) rfl ?_
      refine ⟨av, cv, rfl, ?_, ((((HB.out.setCell (Nat.le_refl _) _).setCell (Nat.le_refl _) _).setCell (Nat.le_refl _) _).setCell (Nat.le_refl _) _).setCell (Nat.le_refl _) _⟩
      exact own_base (ownsRow_setCell_below (ownsRow_setCell_below (ownsRow_setCell_below (ownsRow_setCell_below (ownsRow_setCell_below HW.out (by simp) _) (by simp) _) (by simp) _) (by simp) _) (by simp) _) (by omega)

set_option maxRecDepth 100000 in
theorem attrs_any (l : List At2) (hl : l.length ≤ 1000) (g : Nat) (w : World) (h : ElA l g w) :
    Calls Try.prog 23 #[.pointer (some ⟨g, 0, none⟩)] w (AtsPost l w) := by
  have HK := Lib.hid (kindOf_el l hl g w h)
  clear h
  go_enter Try.func23, Try.ntmps23
  go_wp2_with fail
  refine HK.out.mono ?_
  rintro e w1 ⟨a, c, rfl, hown, hb⟩
  have HO := Lib.hid hown
  have HB := Lib.hid hb
  clear hown hb
  have hfd : ∀ w : World, (Instr.field 40 (.agg #[.int .i64 3, .string tagA, .string ⟨#[]⟩, .slice a l.length c, .int .i64 0]) 3).run Try.prog w = .ok (.slice a l.length c) w := fun _ => by kernel_rfl
  go_wp2_with fail
  go_ret
  exact ⟨a, c, rfl, HO.out, HB.out⟩
end Go.Proofs.Ytjebadadimejpaa
