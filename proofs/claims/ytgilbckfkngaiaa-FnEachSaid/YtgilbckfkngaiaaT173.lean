/- Map, impl.Mapped. -/
import Derived.Test.YtgilbckfkngaiaaT172
import Derived.Test.YtgilbckfkngaiaaT170
namespace Go.Proofs.Ytgilbckfkngaiaa
open Go.RowKit
set_option linter.unusedVariables false

def MapRel (B gl rb m : Nat) (ns : List Nat) (w : World) (x : Value) (wr : World) : Prop :=
  ∃ (k : Nat) (cur : Array Value) (vl : Value), k ≤ ns.length ∧ x = .int .i64 k ∧ wr.heap[rb]? = some (.cells cur 3 (0, 0)) ∧ cur.size = m ∧ Hid (∀ i, i < k → cur[i]? = some (.int .i64 (i : Nat))) ∧ Var1 B gl vl (toI (ns.take k)) wr ∧ Tell B gl rb w wr
def MapPost (B gl rb : Nat) (ns : List Nat) (w : World) (e : Ending) (w' : World) : Prop :=
  e = .returned (.slice (some ⟨rb, 0, none⟩) ns.length ns.length) ∧ ∃ (cur : Array Value) (vl : Value), w'.heap[rb]? = some (.cells cur 3 (0, 0)) ∧ (∀ i, i < ns.length → cur[i]? = some (.int .i64 (i : Nat))) ∧ Var1 B gl vl (toI ns) w' ∧ Tell B gl rb w w'

theorem Fr1.tell {B gl rb : Nat} {vl : Value} {W W' : World} (h : Fr1 gl vl W W') (hB : B ≤ W.heap.size) (hv : ∀ x, vl.ownBlock = some x → B ≤ x) : Tell B gl rb W W' :=
  ⟨h.os, h.tape, h.output, h.size, fun b h1 h2 _ => h.block b (by omega) h2 (fun e => by have := hv b e.symm; omega)⟩

set_option maxRecDepth 100000 in
set_option maxHeartbeats 4000000 in
theorem map_any (bl : Nat → Nat) (n L gl ga g : Nat) (a : Option Addr) (c : Nat) (doc : Option Addr) (ns : List Nat) (hn : n ≤ 200) (hns : ∀ i ∈ ns, i < n) (hlen : ns.length ≤ 200) (w : World)
    (hW : ∀ W, Tell w.heap.size gl gl w W → EachW bl n L ga g a c doc ns W) (hT : w.heap[gl]? = some (.cells #[.slice none 0 0] 37 (0, 0))) (hLB : L < w.heap.size) :
    Calls Try.prog 82 #[.pointer (some ⟨g, 0, none⟩), .func (.func 83) #[] #[.pointer (some ⟨gl, 0, none⟩), .pointer (some ⟨ga, 0, none⟩)]] w (MapPost (w.heap.size + 1) gl w.heap.size ns w) := by
  have hgl : gl < w.heap.size := (Array.getElem?_eq_some_iff.1 hT).1
  have hmk := run_make_row' (P := Try.prog) 37 3 (.int .i64 0) 8 Try.underlying37 Try.info3 rfl .i64 .i64 ns.length (by omega) (by omega)
  have HW : Hid (∀ W, Tell (w.heap.size + 1) gl w.heap.size w W → EachW bl n L ga g a c doc ns W) := fun W h => hW W ⟨h.os, h.tape, h.output, h.size, fun b h1 h2 _ => h.block b (by omega) h2 (by omega)⟩
  have HNs := Lib.hid hns
  have h0 := hW w (Tell.refl _ _ _ _)
  have c0 := h0.sel0
  have HT := Lib.hid hT
  have cA : ∀ O, (w.alloc O).cell? ⟨g, 0, none⟩ = some (.slice a ns.length c) := fun O => by
    rw [World.cell?_alloc_lt _ _ _ (World.block_lt_of_cell? w _ c0)]; exact c0
  clear hW hns h0 hT
  go_enter Try.func82, Try.ntmps82
  go_wp2_with fail
  go_loopw [18] (fun x wr => MapRel (w.heap.size + 1) gl w.heap.size ns.length ns w x wr) (fun x _ => ns.length - (intOf x).toNat)
  case atStart =>
    refine ⟨0, madeCells #[.int .i64 0] ns.length, .slice none 0 0, by omega, rfl, heap_alloc_new w _, size_madeCells _ _, (fun i hi => by omega), ⟨?_, ⟨none, 0, rfl⟩, World.ownsRow_nil _ _ _ _⟩, rfl, rfl, rfl, by simp, fun b h1 h2 h3 => ?_⟩
    · rw [Below.heap_alloc _ _ _ hgl]; exact HT.out
    · rw [Below.heap_alloc _ _ _ (by omega)]
  case round =>
    obtain ⟨k, cur, vl, hk, rfl, hrb, hcs, hcur, hv, hTl⟩ := hrel
    have HTl := Lib.hid hTl
    have HV := Lib.hid hv
    have HRb := Lib.hid hrb
    have hsz := hTl.size
    have hrbl : w.heap.size < wr.heap.size := (Array.getElem?_eq_some_iff.1 hrb).1
    clear hTl hv hrb
    by_cases hlt : k < ns.length
    · have hE := HW.out wr HTl.out
      obtain ⟨b, o, rfl, hbB, hc⟩ := hE.row.at_ (by rw [ptrs_length]; omega)
      have g1 := hc k (by rw [ptrs_length]; exact hlt)
      rw [ptrs_at hlt] at g1
      have g2 := hE.sel1
      obtain ⟨j, hj⟩ : ∃ j, j = ns[k] := ⟨_, rfl⟩
      have HJn : Hid (j < n) := by rw [hj]; exact HNs.out _ (List.getElem_mem hlt)
      have HTake : Hid (toI (ns.take (k + 1)) = toI (ns.take k) ++ [(j : Int)]) := by rw [Hid, List.take_succ_eq_append_getElem hlt, toI_snoc, hj]
      rw [← hj] at g1
      have HE := Lib.hid hE
      clear hc hj hE
      go_wp2_with fail
      refine (single_any ⟨bl j, 0, none⟩ doc wr).mono ?_
      rintro e w1 ⟨gs, r, rfl, hsel, hgs, hr, hown, hb1⟩
      have hE1 := HE.out.up hb1
      have hs1 := hb1.size
      have HC := Lib.hid (mapped1_any bl n L (w.heap.size + 1) gl ga hn (toI (ns.take k)) (by rw [toI_length, List.length_take]; omega) vl w1 (HV.out.kept hb1) (by omega) (by omega) hE1.all hE1.nodes (by omega) hE1.list (k : Int) j HJn.out gs r hsel.cells.1 (cell_of_own1 hown))
      have HB1 := Lib.hid hb1
      clear hsel hgs hr hown hb1 hE1 g1 g2
      go_wp2_with fail
      refine HC.out.mono ?_
      rintro e w2 ⟨rfl, vl2, hv2, hat, hfr⟩
      have hvB : ∀ x, vl.ownBlock = some x → w.heap.size + 1 ≤ x := fun x hx => (HV.out.2.2.lt x hx).1
      have hTl2 : Tell (w.heap.size + 1) gl w.heap.size wr w2 := (Tell.of_below (HB1.out.mono (by omega))).trans (hfr.tell (by omega) hvB)
      have hrb2 : w2.heap[w.heap.size]? = some (.cells cur 3 (0, 0)) := (hfr.block _ (by omega) (by omega) (fun e => by have := hvB _ e.symm; omega)).trans ((HB1.out.block _ hrbl).trans HRb.out)
      have hkc : k < cur.size := by omega
      have d1 := cell_of_row w2 w.heap.size k _ _ _ hrb2
      rw [Array.getElem?_eq_getElem hkc] at d1
      have d2 := frozen_of_row w2 w.heap.size k _ _ hrb2
      have HV2 := Lib.hid hv2
      have HTl3 : Hid (Tell (w.heap.size + 1) gl w.heap.size w w2) := HTl.out.trans hTl2
      have HRb2 := Lib.hid hrb2
      generalize hcv : cur[k] = cv at d1
      clear hv2 hat hfr hTl2 hrb2 hvB hcv
      go_wp2_with fail
      go_roundw
      case rel =>
        refine ⟨k + 1, cur.setIfInBounds k (.int .i64 (k : Nat)), vl2, by omega, by go_num, heap_setCell_same w2 w.heap.size k _ _ _ HRb2.out, by simpa using hcs, (fun i hi => ?_), ?_, HTl3.out.set (p := ⟨w.heap.size, k, none⟩) (.inr rfl) _⟩
        · by_cases e : i = k
          · subst e; simp [hkc]
          · rw [Array.getElem?_setIfInBounds_ne (by omega)]; exact hcur.out i (by omega)
        · rw [HTake.out]
          refine ⟨by rw [Below.heap_setCell _ _ _ _ (by show gl ≠ w.heap.size; omega)]; exact HV2.out.1, HV2.out.2.1, own_setCell HV2.out.2.2 (fun e => by have := (HV2.out.2.2.lt _ e).1; simp at this; omega) _⟩
      case measure => simp [intOf]; omega
    · have e : k = ns.length := by omega
      subst e
      go_wp2_with fail
      go_ret
      refine ⟨rfl, cur, vl, HRb.out, hcur.out, ?_, HTl.out⟩
      have := HV.out
      rwa [List.take_length] at this
end Go.Proofs.Ytgilbckfkngaiaa
