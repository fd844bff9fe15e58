/- impl.Each, impl.EachAll. -/
import Derived.Test.YtgilbckfkngaiaaT169
namespace Go.Proofs.Ytgilbckfkngaiaa
open Go.RowKit
set_option linter.unusedVariables false

theorem eachW_of {t : List Nd} {w1 w2 : World} {B0 L ga gn gl g : Nat} {bl : Nat → Nat} {st : Nat → Dn} {ns : List Nat} {doc : Option Addr} (hT : Tree t w1 B0 L bl st) (hs : SelOf bl ns B0 g doc w1) (hgn : gn < B0) (hgl : gl < B0) (h12 : Below w1.heap.size w1 w2)
    (hga : w2.cell? ⟨ga, 0, none⟩ = some (.slice (some ⟨L, 0, none⟩) t.length t.length)) (hg1 : ga ≠ gn) (hg2 : ga ≠ gl) : ∃ a c, ∀ W, Tell w2.heap.size gn gl w2 W → EachW bl t.length L ga g a c doc ns W := by
  obtain ⟨a, c, prev, hsel, hB, hown, _⟩ := hs
  refine ⟨a, c, fun W hW => ?_⟩
  have hg : g < w1.heap.size := (Array.getElem?_eq_some_iff.1 hsel).1
  have hs12 := h12.size
  have hblk : ∀ b, B0 ≤ b → b < w1.heap.size → W.heap[b]? = w1.heap[b]? := fun b h1 h2 => (hW.block b (by omega) (by omega) (by omega)).trans (h12.block b h2)
  have hsW : SelB W g a ns.length c doc prev := (hblk g hB hg).trans hsel
  have howW : W.ownsRow B0 75 1 (.slice a ns.length c) ns.length (ptrs bl ns) := own_kept hown hblk
  have hL : L < w1.heap.size := by obtain ⟨cur, h1, _⟩ := hT.row; exact (Array.getElem?_eq_some_iff.1 h1).1
  refine ⟨hsW.cells.1, hsW.cells.2.1, ?_, ?_, fun j hj => ?_, ?_⟩
  · obtain ⟨a', c', hv, _, hr⟩ := RSl.own howW
    cases hv
    exact hr
  · have hN := hT.nodes
    refine ⟨hN.inj, fun i hi => Nat.lt_of_lt_of_le (hN.lt i hi) (Nat.le_trans hs12 hW.size), fun i hi => ?_⟩
    obtain ⟨cs, h1, h2⟩ := hN.blk i hi
    exact ⟨cs, (hblk _ (hT.dom.node i hi).1 (hN.lt i hi)).trans h1, h2⟩
  · exact (World.cell?_of_block (a := ⟨L, j, none⟩) (hblk L hT.base hL)).trans (hT.cell j hj)
  · exact (hW.cell (p := ⟨ga, 0, none⟩) (World.block_lt_of_cell? w2 _ hga) hg1 hg2).trans hga

theorem tells_nil {B gn gl : Nat} {W : World} (h1 : W.heap[gn]? = some (.cells #[.slice none 0 0] 37 (0, 0))) (h2 : W.heap[gl]? = some (.cells #[.slice none 0 0] 37 (0, 0))) : Tells B gn gl [] [] W :=
  ⟨.slice none 0 0, .slice none 0 0, ⟨h1, ⟨none, 0, rfl⟩, World.ownsRow_nil _ _ _ _⟩, ⟨h2, ⟨none, 0, rfl⟩, World.ownsRow_nil _ _ _ _⟩, Apt.none _ _ _⟩

theorem load_list (g : Nat) (v : Value) (w : World) (h : w.cell? ⟨g, 0, none⟩ = some v) : (loadVar 37 ⟨g, 0, none⟩).run Try.prog w = .ok v w := by
  simp [loadVar, h]

theorem results_two {fn : Func} {p1 p2 u : Tmp} (h : fn.results = #[.cell p1 37, .cell p2 37, .tmp u]) (tmps : Array Value) (w : World) (g1 g2 : Nat) (v1 v2 : Value)
    (hp1 : tmps.getD p1 undef = .pointer (some ⟨g1, 0, none⟩)) (hp2 : tmps.getD p2 undef = .pointer (some ⟨g2, 0, none⟩)) (h1 : w.cell? ⟨g1, 0, none⟩ = some v1) (h2 : w.cell? ⟨g2, 0, none⟩ = some v2) :
    (results fn tmps).run Try.prog w = .ok (.tuple #[v1, v2, tmps.getD u undef]) w := by
  have hp1' : tmps[p1]?.getD undef = .pointer (some ⟨g1, 0, none⟩) := by simpa using hp1
  have hp2' : tmps[p2]?.getD undef = .pointer (some ⟨g2, 0, none⟩) := by simpa using hp2
  have l1 := load_list g1 v1 w h1
  have l2 := load_list g2 v2 w h2
  simp [results, h, hp1', hp2', asAddr, l1, l2]

/-- Two lists are answered. -/
def TwoPost (K P : List Int) (w : World) (e : Ending) (w' : World) : Prop :=
  ∃ an cn al cl, e = .returned (.tuple #[.slice an K.length cn, .slice al P.length cl, .bool true]) ∧ RSl w' w'.heap.size an (ivs K) ∧ RSl w' w'.heap.size al (ivs P) ∧ Below w.heap.size w w'

set_option maxRecDepth 100000 in
set_option maxHeartbeats 4000000 in
theorem eachAll_any (a : Option Addr) (c : Nat) (t : List Nd) (hR : RightP t) (ad : Option Addr) (c2 : Nat) (l : List Int) (ns : List Nat) (ho : OrdP t.length l ns) (hl : l.length ≤ 2147483647) (hlen : ns.length ≤ 200) (w : World) (h : NSl w w.heap.size a t) (hi : ISl w w.heap.size ad l) :
    Calls Try.prog 36 #[.slice a t.length c, .slice ad l.length c2] w (TwoPost (upN ns.length) (toI ns) w) := by
  have hb0 : Below w.heap.size w ((w.alloc (.cells #[.slice none 0 0] 37)).alloc (.cells #[.slice none 0 0] 37)) := ((Below.refl _ _).alloc (Nat.le_refl _) _).alloc (by simp) _
  have HC := Lib.hid (chosen_any a c t hR ad c2 l ns ho hl _ (h.up hb0) (hi.up hb0))
  have k0 : ((w.alloc (.cells #[.slice none 0 0] 37)).alloc (.cells #[.slice none 0 0] 37)).heap[w.heap.size]? = some (.cells #[.slice none 0 0] 37 (0, 0)) := by
    rw [Below.heap_alloc _ _ _ (by simp), heap_alloc_new]
  have k1 : ((w.alloc (.cells #[.slice none 0 0] 37)).alloc (.cells #[.slice none 0 0] 37)).heap[w.heap.size + 1]? = some (.cells #[.slice none 0 0] 37 (0, 0)) := by
    have := heap_alloc_new (w.alloc (.cells #[.slice none 0 0] 37)) (.cells #[.slice none 0 0] 37)
    simpa using this
  have ks : ((w.alloc (.cells #[.slice none 0 0] 37)).alloc (.cells #[.slice none 0 0] 37)).heap.size = w.heap.size + 2 := by simp
  have HB0 := Lib.hid hb0
  have HO := Lib.hid ho.lt
  have hle := hR.le
  clear h hi ho hb0 hR
  go_enter Try.func36, Try.ntmps36
  go_wp2_with fail
  generalize hW0 : (w.alloc (.cells #[.slice none 0 0] 37)).alloc (.cells #[.slice none 0 0] 37) = W0 at *
  clear hW0
  refine HC.out.mono ?_
  rintro e w1 ⟨L, bl, st, g, doc, rfl, hL, hT, hs, hb1⟩
  have HB1 := Lib.hid hb1
  have HL := Lib.hid hL
  have HT := Lib.hid hT
  have HS := Lib.hid hs
  have hs1 := hb1.size
  clear hb1 hL hT hs HC
  go_wp2_with fail
  obtain ⟨Wg, hWg⟩ : ∃ Wg, Wg = w1.alloc (.cells #[.slice (some ⟨L, 0, none⟩) t.length t.length] 86) := ⟨_, rfl⟩
  rw [← hWg]
  have hbg : Below w1.heap.size w1 Wg := by rw [hWg]; exact (Below.refl _ _).alloc (Nat.le_refl _) _
  have hga : Wg.cell? ⟨w1.heap.size, 0, none⟩ = some (.slice (some ⟨L, 0, none⟩) t.length t.length) := by rw [hWg, World.cell?_alloc_mark]; rfl
  have hgs : Wg.heap.size = w1.heap.size + 1 := by rw [hWg]; simp
  obtain ⟨a', c', hEW⟩ := eachW_of (gn := w.heap.size) (gl := w.heap.size + 1) HT.out HS.out (by omega) (by omega) hbg hga (by omega) (by omega)
  have hkeep : ∀ b, b < W0.heap.size → Wg.heap[b]? = W0.heap[b]? := fun b hb => (hbg.block b (by omega)).trans (HB1.out.block b hb)
  have HE := Lib.hid (each_any bl t.length L Wg.heap.size w.heap.size (w.heap.size + 1) w1.heap.size g a' c' doc ns hle HO.out hlen Wg hEW (tells_nil ((hkeep _ (by omega)).trans k0) ((hkeep _ (by omega)).trans k1)) (Nat.le_refl _) (by omega) (by omega) (by omega) (by omega) (by have := HL.out; omega) (fun i hi => by have := HT.out.nodes.lt i hi; omega))
  have HBg : Hid (Below w.heap.size w Wg) := HB0.out.trans ((HB1.out.mono (by omega)).trans (hbg.mono (by omega)))
  clear hWg hbg hga hEW hkeep k0 k1
  refine HE.out.mono ?_
  rintro e w2 ⟨rfl, ⟨vn, vl, ⟨n1, ⟨an, cn, rfl⟩, n3⟩, ⟨l1, ⟨al, cl, rfl⟩, l3⟩, _⟩, hTl⟩
  have HF : Hid (Below w.heap.size w w2) := HBg.out.trans (hTl.below (by omega) (Nat.le_refl _) (by omega))
  have HN3 := Lib.hid n3
  have HL3 := Lib.hid l3
  have d1 := cell_of_row w2 _ 0 _ _ _ n1
  have d2 := frozen_of_row w2 _ 0 _ _ n1
  have d3 := cell_of_row w2 _ 0 _ _ _ l1
  have d4 := frozen_of_row w2 _ 0 _ _ l1
  rw [List.take_length] at d3 HL3
  simp only [List.getElem?_toArray, List.getElem?_cons_zero] at d1 d3
  clear n3 l3 hTl n1 l1 HE
  go_wp2_with fail
  go_region
  all_goals go_wp2_with fail
  obtain ⟨Wf, hWf⟩ : ∃ Wf, Wf = ((w2.setCell ⟨w.heap.size, 0, none⟩ (.slice an (upN ns.length).length cn)).setCell ⟨w.heap.size + 1, 0, none⟩ (.slice al (toI ns).length cl)).drew := ⟨_, rfl⟩
  have f1 : Wf.cell? ⟨w.heap.size, 0, none⟩ = some (.slice an (upN ns.length).length cn) := by rw [hWf]; exact cell_after (by omega) w2 _ _ d1
  have f2 : Wf.cell? ⟨w.heap.size + 1, 0, none⟩ = some (.slice al (toI ns).length cl) := by
    rw [hWf]
    exact World.cell?_setCell_same _ _ _ (by rw [World.cell?_setCell_far _ _ _ _ (by show w.heap.size ≠ w.heap.size + 1; omega)]; exact d3)
  have hbf : Below w.heap.size w Wf := by rw [hWf]; exact ((HF.out.setCell (Nat.le_refl _) _).setCell (by show _ ≤ w.heap.size + 1; omega) _).drew
  rw [← hWf]
  refine bodyPost_ret (results_two rfl _ _ w.heap.size (w.heap.size + 1) _ _ rfl rfl f1 f2) rfl ?_
  have on : Wf.ownsRow Wg.heap.size 3 1 (.slice an (upN ns.length).length cn) (upN ns.length).length (ivs (upN ns.length)) := by
    rw [hWf]
    exact ownsRow_setCell_below (ownsRow_setCell_below HN3.out (by show w.heap.size < _; omega) _) (by show w.heap.size + 1 < _; omega) _
  have ol : Wf.ownsRow Wg.heap.size 3 1 (.slice al (toI ns).length cl) (toI ns).length (ivs (toI ns)) := by
    rw [hWf]
    exact ownsRow_setCell_below (ownsRow_setCell_below HL3.out (by show w.heap.size < _; omega) _) (by show w.heap.size + 1 < _; omega) _
  obtain ⟨_, _, hv1, _, r1⟩ := RSl.own on
  cases hv1
  obtain ⟨_, _, hv2, _, r2⟩ := RSl.own ol
  cases hv2
  exact ⟨an, cn, al, cl, rfl, r1, r2, hbf⟩
end Go.Proofs.Ytgilbckfkngaiaa
