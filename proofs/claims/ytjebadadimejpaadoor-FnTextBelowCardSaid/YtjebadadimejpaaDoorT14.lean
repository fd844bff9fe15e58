/- A right tree has grown: the nodes in memory, and the list of them. -/
import Derived.Test.YtjebadadimejpaaDoorT13
import Derived.Deep.OwnRows
namespace Go.Proofs.YtjebadadimejpaaDoor
open Go.RowKit
set_option linter.unusedVariables false

/-- The nodes of a tree in memory, from block B on, the list of them in block L. -/
structure Tree (t : List Nd) (w : World) (B L : Nat) (bl : Nat → Nat) (st : Nat → Dn) : Prop where
  dom : Dom w B (fun i => i < t.length) bl st
  kin : ∀ i (h : i < t.length), NodeOk (sz t) 0 i (st i) ∧ SelfOk t[i] (st i)
  base : B ≤ L
  row : ∃ cur, w.heap[L]? = some (.cells cur 39 (0, 0)) ∧ cur.size = t.length ∧ ∀ j, j < t.length → cur[j]? = some (ptrTo bl (some j))

theorem Tree.kept {t : List Nd} {w w' : World} {B L : Nat} {bl : Nat → Nat} {st : Nat → Dn} (h : Tree t w B L bl st) (hb : Below w.heap.size w w') : Tree t w' B L bl st := by
  obtain ⟨cur, h1, h2, h3⟩ := h.row
  exact ⟨h.dom.kept (fun b _ hb2 => hb.block b hb2), h.kin, h.base, cur, (hb.block L (Array.getElem?_eq_some_iff.1 h1).1).trans h1, h2, h3⟩

/-- The list's cell: the pointer to the node. -/
theorem Tree.cell {t : List Nd} {w : World} {B L : Nat} {bl : Nat → Nat} {st : Nat → Dn} (h : Tree t w B L bl st) (i : Nat) (hi : i < t.length) : w.cell? ⟨L, i, none⟩ = some (.pointer (some ⟨bl i, 0, none⟩)) := by
  obtain ⟨cur, h1, h2, h3⟩ := h.row
  rw [cell_of_row w L i _ _ _ h1, h3 i hi]; rfl

def GrownPost (t : List Nd) (w : World) (e : Ending) (w' : World) : Prop :=
  ∃ L bl st, e = .returned (.tuple #[.slice (some ⟨L, 0, none⟩) t.length t.length, .bool true]) ∧ Below w.heap.size w w' ∧ L < w'.heap.size ∧ Tree t w' w.heap.size L bl st

theorem Tryd.infoP : (Tryd.prog.info? 39).map (fun i => (i.zero, i.size, i.bytes)) = some (some (.pointer none), 1, 8) := by kernel_rfl

set_option maxRecDepth 100000 in
set_option maxHeartbeats 2000000 in
theorem grown_any (a : Option Addr) (c : Nat) (t : List Nd) (w : World) (h : NSl w w.heap.size a t) (hR : RightP t) :
    Calls Tryd.prog 14 #[.slice a t.length c] w (GrownPost t w) := by
  have hle := hR.le
  have hmk := run_make_row' (P := Tryd.prog) 35 39 (.pointer none) 8 Tryd.underlying35 Tryd.infoP rfl .i64 .i64 t.length (by omega) (by omega)
  have HH := Lib.hid h
  have HR := Lib.hid hR
  clear h hR
  go_enter Tryd.func14, Tryd.ntmps14
  go_wp2_with fail
  refine (iright_any _ _ t _ HH.out HR.out).mono ?_
  rintro e w1 ⟨rfl, hb1⟩
  have hal : Below w.heap.size w (w1.alloc (.cells (madeCells #[.pointer none] t.length) 39)) := hb1.alloc hb1.size _
  have HAL := Lib.hid hal
  have hs1 := hb1.size
  clear hal hb1
  go_wp2_with fail
  have hsz : sz t 0 = t.length := HR.out.top
  refine (grow_any _ _ t HR.out w.heap.size w1.heap.size t.length 0 _ (madeCells #[.pointer none] t.length) _ rfl HR.out.pos (by omega) (HH.out.below HAL.out) (by omega) (by simp) (heap_alloc_new w1 _) (size_madeCells _ _)).mono ?_
  rintro e w2 ⟨rfl, bl, st, cur, hG⟩
  rw [hsz, Nat.zero_add] at hG
  have HG := Lib.hid hG
  clear hG hsz
  go_wp2_with fail
  go_ret2
  have hfr := HG.out.frame
  have hb2 : Below w.heap.size w w2 := HAL.out.trans (grown_below hfr (by omega) (by simp; omega))
  have hB : w.heap.size ≤ (w1.alloc (.cells (madeCells #[.pointer none] t.length) 39)).heap.size := HAL.out.size
  have hrow := HG.out.row
  refine ⟨w1.heap.size, bl, st, rfl, hb2, (Array.getElem?_eq_some_iff.1 hrow).1, ⟨fun i hi => ?_, fun i j hi hj e => HG.out.dom.inj i j ⟨Nat.zero_le _, hi⟩ ⟨Nat.zero_le _, hj⟩ e⟩, fun i hi => ?_, by omega, cur, hrow, HG.out.fill.1.trans (size_madeCells _ _), fun j hj => ?_⟩
  · obtain ⟨q1, aa, ac, q2, q3⟩ := HG.out.dom.node i ⟨Nat.zero_le _, hi⟩
    exact ⟨by omega, aa, ac, q2, own_base q3 hB⟩
  · have hx : extK t 0 t.length = sz t := by
      funext j
      by_cases e : j = 0
      · subst e; rw [extK_root, HR.out.top]; omega
      · exact extK_ne _ _ _ _ e
    have := HG.out.kin i (Nat.zero_le _) hi
    rw [hx, getD_at hi] at this
    exact this
  · rw [HG.out.fill.2 j (by rw [size_madeCells]; exact hj), if_pos ⟨Nat.zero_le _, hj⟩]
end Go.Proofs.YtjebadadimejpaaDoor
