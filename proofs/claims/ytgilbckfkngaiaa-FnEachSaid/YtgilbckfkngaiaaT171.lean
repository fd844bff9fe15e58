/- impl.Each, which is stopped. -/
import Derived.Test.YtgilbckfkngaiaaT170
namespace Go.Proofs.Ytgilbckfkngaiaa
open Go.RowKit
set_option linter.unusedVariables false

set_option maxRecDepth 100000 in
set_option maxHeartbeats 4000000 in
theorem eachStop_any (a : Option Addr) (c : Nat) (t : List Nd) (hR : RightP t) (ad : Option Addr) (c2 : Nat) (l : List Int) (ns : List Nat) (ho : OrdP t.length l ns) (hl : l.length ≤ 2147483647) (hlen : ns.length ≤ 200) (stop : Nat) (hst : 1 ≤ stop ∧ stop ≤ 300) (w : World) (h : NSl w w.heap.size a t) (hi : ISl w w.heap.size ad l) :
    Calls Try.prog 35 #[.slice a t.length c, .slice ad l.length c2, .int .i64 stop] w (TwoPost (upN (min stop ns.length)) (toI (ns.take (min stop ns.length))) w) := by
  have hb0 : Below w.heap.size w (((w.alloc (.cells #[.int .i64 stop] 3)).alloc (.cells #[.slice none 0 0] 37)).alloc (.cells #[.slice none 0 0] 37)) := (((Below.refl _ _).alloc (Nat.le_refl _) _).alloc (by simp) _).alloc (by simp; omega) _
  have HC := Lib.hid (chosen_any a c t hR ad c2 l ns ho hl _ (h.up hb0) (hi.up hb0))
  have kt : (((w.alloc (.cells #[.int .i64 stop] 3)).alloc (.cells #[.slice none 0 0] 37)).alloc (.cells #[.slice none 0 0] 37)).cell? ⟨w.heap.size, 0, none⟩ = some (.int .i64 stop) := by
    rw [World.cell?_alloc_lt _ _ _ (by simp; omega), World.cell?_alloc_lt _ _ _ (by simp), World.cell?_alloc_mark]; rfl
  have k0 : (((w.alloc (.cells #[.int .i64 stop] 3)).alloc (.cells #[.slice none 0 0] 37)).alloc (.cells #[.slice none 0 0] 37)).heap[w.heap.size + 1]? = some (.cells #[.slice none 0 0] 37 (0, 0)) := by
    rw [Below.heap_alloc _ _ _ (by simp)]
    have := heap_alloc_new (w.alloc (.cells #[.int .i64 stop] 3)) (.cells #[.slice none 0 0] 37)
    simpa using this
  have k1 : (((w.alloc (.cells #[.int .i64 stop] 3)).alloc (.cells #[.slice none 0 0] 37)).alloc (.cells #[.slice none 0 0] 37)).heap[w.heap.size + 1 + 1]? = some (.cells #[.slice none 0 0] 37 (0, 0)) := by
    have := heap_alloc_new ((w.alloc (.cells #[.int .i64 stop] 3)).alloc (.cells #[.slice none 0 0] 37)) (.cells #[.slice none 0 0] 37)
    simpa using this
  have ks : (((w.alloc (.cells #[.int .i64 stop] 3)).alloc (.cells #[.slice none 0 0] 37)).alloc (.cells #[.slice none 0 0] 37)).heap.size = w.heap.size + 3 := by simp
  have HB0 := Lib.hid hb0
  have HO := Lib.hid ho.lt
  have hle := hR.le
  clear h hi ho hb0 hR
  go_enter Try.func35, Try.ntmps35
  go_wp2_with fail
  generalize hW0 : ((w.alloc (.cells #[.int .i64 stop] 3)).alloc (.cells #[.slice none 0 0] 37)).alloc (.cells #[.slice none 0 0] 37) = W0 at *
  clear hW0
  refine HC.out.mono ?_
  rintro e w1 ⟨L, bl, st, g, doc, rfl, hL, hT, hs, hb1⟩
  have HB1 := Lib.hid hb1
  have HL := Lib.hid hL
  have HT := Lib.hid hT
  have HS := Lib.hid hs
  have hs1 := hb1.size
  clear hb1 hL hT hs HC
  go_wp2_with fail
  obtain ⟨Wg, hWg⟩ : ∃ Wg, Wg = w1.alloc (.cells #[.slice (some ⟨L, 0, none⟩) t.length t.length] 86) := ⟨_, rfl⟩
  rw [← hWg]
  have hbg : Below w1.heap.size w1 Wg := by rw [hWg]; exact (Below.refl _ _).alloc (Nat.le_refl _) _
  have hga : Wg.cell? ⟨w1.heap.size, 0, none⟩ = some (.slice (some ⟨L, 0, none⟩) t.length t.length) := by rw [hWg, World.cell?_alloc_mark]; rfl
  have hgs : Wg.heap.size = w1.heap.size + 1 := by rw [hWg]; simp
  obtain ⟨a', c', hEW⟩ := eachW_of (gn := w.heap.size + 1) (gl := w.heap.size + 1 + 1) HT.out HS.out (by omega) (by omega) hbg hga (by omega) (by omega)
  have hkeep : ∀ b, b < W0.heap.size → Wg.heap[b]? = W0.heap[b]? := fun b hb => (hbg.block b (by omega)).trans (HB1.out.block b hb)
  have HE := Lib.hid (eachBreak_any bl t.length L Wg.heap.size (w.heap.size + 1) (w.heap.size + 1 + 1) w1.heap.size g w.heap.size a' c' doc ns stop hst hle HO.out hlen Wg hEW (tells_nil ((hkeep _ (by omega)).trans k0) ((hkeep _ (by omega)).trans k1)) (Nat.le_refl _) (by omega) (by omega) (by omega) (by omega) (by have := HL.out; omega) (fun i hi => by have := HT.out.nodes.lt i hi; omega) ((hbg.cell (p := ⟨w.heap.size, 0, none⟩) (by show w.heap.size < _; omega)).trans ((HB1.out.cell (p := ⟨w.heap.size, 0, none⟩) (by show w.heap.size < _; omega)).trans kt)) (by omega) (by omega) (by omega))
  have HBg : Hid (Below w.heap.size w Wg) := HB0.out.trans ((HB1.out.mono (by omega)).trans (hbg.mono (by omega)))
  clear hWg hbg hga hEW hkeep k0 k1 kt
  refine HE.out.mono ?_
  rintro e w2 ⟨rfl, ⟨vn, vl, ⟨n1, ⟨an, cn, rfl⟩, n3⟩, ⟨l1, ⟨al, cl, rfl⟩, l3⟩, _⟩, hTl⟩
  have HF : Hid (Below w.heap.size w w2) := HBg.out.trans (hTl.below (by omega) (by omega) (by omega))
  have HN3 := Lib.hid n3
  have HL3 := Lib.hid l3
  have d1 := cell_of_row w2 _ 0 _ _ _ n1
  have d2 := frozen_of_row w2 _ 0 _ _ n1
  have d3 := cell_of_row w2 _ 0 _ _ _ l1
  have d4 := frozen_of_row w2 _ 0 _ _ l1
  obtain ⟨mm, hmm⟩ : ∃ mm, mm = min stop ns.length := ⟨_, rfl⟩
  rw [← hmm] at d1 d3 HN3 HL3 ⊢
  obtain ⟨ms, hms⟩ : ∃ ms, ms = ns.take mm := ⟨_, rfl⟩
  rw [← hms] at d3 HL3 ⊢
  simp only [List.getElem?_toArray, List.getElem?_cons_zero] at d1 d3
  clear n3 l3 hTl n1 l1 HE
  go_wp2_with fail
  go_region
  all_goals go_wp2_with fail
  obtain ⟨Wf, hWf⟩ : ∃ Wf, Wf = ((w2.setCell ⟨w.heap.size + 1, 0, none⟩ (.slice an (upN mm).length cn)).setCell ⟨w.heap.size + 1 + 1, 0, none⟩ (.slice al (toI ms).length cl)).drew := ⟨_, rfl⟩
  have f1 : Wf.cell? ⟨w.heap.size + 1, 0, none⟩ = some (.slice an (upN mm).length cn) := by rw [hWf]; exact cell_after (by omega) w2 _ _ d1
  have f2 : Wf.cell? ⟨w.heap.size + 1 + 1, 0, none⟩ = some (.slice al (toI ms).length cl) := by
    rw [hWf]
    exact World.cell?_setCell_same _ _ _ (by rw [World.cell?_setCell_far _ _ _ _ (by show w.heap.size + 1 ≠ w.heap.size + 1 + 1; omega)]; exact d3)
  have hbf : Below w.heap.size w Wf := by rw [hWf]; exact ((HF.out.setCell (by show _ ≤ w.heap.size + 1; omega) _).setCell (by show _ ≤ w.heap.size + 1 + 1; omega) _).drew
  rw [← hmm, ← hms, ← hWf]
  refine bodyPost_ret (results_two rfl _ _ (w.heap.size + 1) (w.heap.size + 1 + 1) _ _ rfl rfl f1 f2) rfl ?_
  have on : Wf.ownsRow Wg.heap.size 3 1 (.slice an (upN mm).length cn) (upN mm).length (ivs (upN mm)) := by
    rw [hWf]
    exact ownsRow_setCell_below (ownsRow_setCell_below HN3.out (by show w.heap.size + 1 < _; omega) _) (by show w.heap.size + 1 + 1 < _; omega) _
  have ol : Wf.ownsRow Wg.heap.size 3 1 (.slice al (toI ms).length cl) (toI ms).length (ivs (toI ms)) := by
    rw [hWf]
    exact ownsRow_setCell_below (ownsRow_setCell_below HL3.out (by show w.heap.size + 1 < _; omega) _) (by show w.heap.size + 1 + 1 < _; omega) _
  obtain ⟨_, _, hv1, _, r1⟩ := RSl.own on
  cases hv1
  obtain ⟨_, _, hv2, _, r2⟩ := RSl.own ol
  cases hv2
  exact ⟨an, cn, al, cl, rfl, r1, r2, hbf⟩
end Go.Proofs.Ytgilbckfkngaiaa
