/- impl.Mapped. -/
import Derived.Test.YtgilbckfkngaiaaT173
namespace Go.Proofs.Ytgilbckfkngaiaa
open Go.RowKit
set_option linter.unusedVariables false

theorem results_mid {fn : Func} {p1 p2 u : Tmp} (h : fn.results = #[.tmp p1, .cell p2 37, .tmp u]) (tmps : Array Value) (w : World) (g2 : Nat) (v2 : Value)
    (hp2 : tmps.getD p2 undef = .pointer (some ⟨g2, 0, none⟩)) (h2 : w.cell? ⟨g2, 0, none⟩ = some v2) :
    (results fn tmps).run Try.prog w = .ok (.tuple #[tmps.getD p1 undef, v2, tmps.getD u undef]) w := by
  have hp2' : tmps[p2]?.getD undef = .pointer (some ⟨g2, 0, none⟩) := by simpa using hp2
  have l2 := load_list g2 v2 w h2
  simp [results, h, hp2', asAddr, l2]

set_option maxRecDepth 100000 in
set_option maxHeartbeats 4000000 in
theorem mapped_any (a : Option Addr) (c : Nat) (t : List Nd) (hR : RightP t) (ad : Option Addr) (c2 : Nat) (l : List Int) (ns : List Nat) (ho : OrdP t.length l ns) (hl : l.length ≤ 2147483647) (hlen : ns.length ≤ 200) (w : World) (h : NSl w w.heap.size a t) (hi : ISl w w.heap.size ad l) :
    Calls Try.prog 38 #[.slice a t.length c, .slice ad l.length c2] w (TwoPost (upN ns.length) (toI ns) w) := by
  have hb0 : Below w.heap.size w (w.alloc (.cells #[.slice none 0 0] 37)) := (Below.refl _ _).alloc (Nat.le_refl _) _
  have HC := Lib.hid (chosen_any a c t hR ad c2 l ns ho hl _ (h.up hb0) (hi.up hb0))
  have k0 : (w.alloc (.cells #[.slice none 0 0] 37)).heap[w.heap.size]? = some (.cells #[.slice none 0 0] 37 (0, 0)) := heap_alloc_new w _
  have ks : (w.alloc (.cells #[.slice none 0 0] 37)).heap.size = w.heap.size + 1 := by simp
  have HB0 := Lib.hid hb0
  have HO := Lib.hid ho.lt
  have hle := hR.le
  clear h hi ho hb0 hR
  go_enter Try.func38, Try.ntmps38
  go_wp2_with fail
  generalize hW0 : w.alloc (.cells #[.slice none 0 0] 37) = W0 at *
  clear hW0
  refine HC.out.mono ?_
  rintro e w1 ⟨L, bl, st, g, doc, rfl, hL, hT, hs, hb1⟩
  have HB1 := Lib.hid hb1
  have HL := Lib.hid hL
  have HT := Lib.hid hT
  have HS := Lib.hid hs
  have hs1 := hb1.size
  clear hb1 hL hT hs HC
  go_wp2_with fail
  obtain ⟨Wg, hWg⟩ : ∃ Wg, Wg = w1.alloc (.cells #[.slice (some ⟨L, 0, none⟩) t.length t.length] 86) := ⟨_, rfl⟩
  rw [← hWg]
  have hbg : Below w1.heap.size w1 Wg := by rw [hWg]; exact (Below.refl _ _).alloc (Nat.le_refl _) _
  have hga : Wg.cell? ⟨w1.heap.size, 0, none⟩ = some (.slice (some ⟨L, 0, none⟩) t.length t.length) := by rw [hWg, World.cell?_alloc_mark]; rfl
  have hgs : Wg.heap.size = w1.heap.size + 1 := by rw [hWg]; simp
  obtain ⟨a', c', hEW⟩ := eachW_of (gn := w.heap.size) (gl := w.heap.size) HT.out HS.out (by omega) (by omega) hbg hga (by omega) (by omega)
  have hkeep : ∀ b, b < W0.heap.size → Wg.heap[b]? = W0.heap[b]? := fun b hb => (hbg.block b (by omega)).trans (HB1.out.block b hb)
  have HE := Lib.hid (map_any bl t.length L w.heap.size w1.heap.size g a' c' doc ns hle HO.out hlen Wg hEW ((hkeep _ (by omega)).trans k0) (by have := HL.out; omega))
  have HBg : Hid (Below w.heap.size w Wg) := HB0.out.trans ((HB1.out.mono (by omega)).trans (hbg.mono (by omega)))
  clear hWg hbg hga hEW hkeep k0
  refine HE.out.mono ?_
  rintro e w2 ⟨rfl, cur, vl, hrb, hcur, ⟨l1, ⟨al, cl, rfl⟩, l3⟩, hTl⟩
  have HF : Hid (Below w.heap.size w w2) := HBg.out.trans (hTl.below (by omega) (Nat.le_refl _) (by omega))
  have HL3 := Lib.hid l3
  have HRb := Lib.hid hrb
  have HCur := Lib.hid hcur
  have d3 := cell_of_row w2 _ 0 _ _ _ l1
  have d4 := frozen_of_row w2 _ 0 _ _ l1
  simp only [List.getElem?_toArray, List.getElem?_cons_zero] at d3
  clear l3 hTl l1 HE hrb hcur
  go_wp2_with fail
  go_region
  all_goals go_wp2_with fail
  obtain ⟨Wf, hWf⟩ : ∃ Wf, Wf = (w2.setCell ⟨w.heap.size, 0, none⟩ (.slice al (toI ns).length cl)).drew := ⟨_, rfl⟩
  have f2 : Wf.cell? ⟨w.heap.size, 0, none⟩ = some (.slice al (toI ns).length cl) := by
    rw [hWf]
    exact World.cell?_setCell_same _ _ _ d3
  have hbf : Below w.heap.size w Wf := by rw [hWf]; exact (HF.out.setCell (Nat.le_refl _) _).drew
  have hrf : Wf.heap[Wg.heap.size]? = some (.cells cur 3 (0, 0)) := by
    rw [hWf]
    exact (Below.heap_setCell _ _ _ _ (by show Wg.heap.size ≠ w.heap.size; omega)).trans HRb.out
  rw [← hWf]
  refine bodyPost_ret (results_mid rfl _ _ w.heap.size _ rfl f2) rfl ?_
  have ol : Wf.ownsRow (Wg.heap.size + 1) 3 1 (.slice al (toI ns).length cl) (toI ns).length (ivs (toI ns)) := by
    rw [hWf]
    exact ownsRow_setCell_below HL3.out (by show w.heap.size < _; omega) _
  obtain ⟨_, _, hv2, _, r2⟩ := RSl.own ol
  cases hv2
  rw [hgs] at hrf
  refine ⟨some ⟨w1.heap.size + 1, 0, none⟩, ns.length, al, cl, by rw [upN_len]; rfl, ?_, r2, hbf⟩
  rcases Nat.eq_zero_or_pos ns.length with h0 | h0
  · exact .inl (by rw [h0]; rfl)
  · refine .inr ⟨w1.heap.size + 1, 0, rfl, (Array.getElem?_eq_some_iff.1 hrf).1, fun i hi => ?_⟩
    have hi' : i < ns.length := by simpa [ivs, upN] using hi
    rw [Nat.zero_add, cell_of_row Wf _ i _ _ _ hrf, HCur.out i hi']
    simp [ivs, upN]
end Go.Proofs.Ytgilbckfkngaiaa
