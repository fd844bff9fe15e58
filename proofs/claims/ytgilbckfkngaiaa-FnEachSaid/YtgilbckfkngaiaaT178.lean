/- impl.EachIter. -/
import Derived.Test.YtgilbckfkngaiaaT177
import Derived.Test.YtgilbckfkngaiaaT171
namespace Go.Proofs.Ytgilbckfkngaiaa
open Go.RowKit Go.Shelf
attribute [local go_sem] Oper.semAt_some
set_option linter.unusedVariables false

theorem eachIterF_any (g : Nat) (w : World) : Calls Try.prog 81 #[.pointer (some ⟨g, 0, none⟩)] w fun e w' => e = .returned (.func (.func 116) #[] #[.pointer (some ⟨w.heap.size, 0, none⟩)]) ∧ w' = w.alloc (.cells #[.pointer (some ⟨g, 0, none⟩)] 74) := by
  go_enter Try.func81, Try.ntmps81
  go_wp2_with fail
  go_ret
  exact ⟨rfl, rfl⟩

/-- Between two rounds. -/
def IterI (wl : World) (gn gl : Nat) (ns : List Nat) (k : Nat) (W : World) : Prop := Tells (wl.heap.size + 2) gn gl (upN k) (toI (ns.take k)) W ∧ Tell wl.heap.size gn gl wl W

theorem IterI.up {wl : World} {gn gl : Nat} {ns : List Nat} {k : Nat} {W W' : World} (h : IterI wl gn gl ns k W) (hb : Below W.heap.size W W') : IterI wl gn gl ns k W' :=
  ⟨h.1.kept hb, h.2.trans (Tell.of_below (hb.mono h.2.size))⟩

theorem Var1.put_far {B g : Nat} {v : Value} {K : List Int} {W : World} (h : Var1 B g v K W) {l : Nat} (hl : g ≠ l) (hB : l < B) (o : Obj) : Var1 B g v K (W.putObj l o) :=
  ⟨(World.putObj_heap_other hl).trans h.1, h.2.1, own_kept h.2.2 (fun b hb _ => World.putObj_heap_other (by omega))⟩

theorem IterI.put {wl : World} {gn gl : Nat} {ns : List Nat} {k : Nat} {W : World} (h : IterI wl gn gl ns k W) (hgn : gn < wl.heap.size) (hgl : gl < wl.heap.size) (o : Obj) : IterI wl gn gl ns k (W.putObj (wl.heap.size + 1) o) := by
  obtain ⟨⟨vn, vl, h1, h2, h3⟩, h4⟩ := h
  refine ⟨⟨vn, vl, h1.put_far (by omega) (by omega) o, h2.put_far (by omega) (by omega) o, h3⟩, h4.os, h4.tape, h4.output, ?_, fun b hb a1 a2 => ?_⟩
  · have := h4.size
    simpa [World.putObj] using this
  · rw [World.putObj_heap_other (by omega)]; exact h4.block b hb a1 a2

theorem Tell.low {B B' gn gl : Nat} {W W' : World} (h : Tell B gn gl W W') (hb : B' ≤ B) : Tell B' gn gl W W' := ⟨h.os, h.tape, h.output, h.size, fun b h1 h2 h3 => h.block b (by omega) h2 h3⟩

set_option maxRecDepth 100000 in
set_option maxHeartbeats 4000000 in
theorem eachIter_any (a : Option Addr) (c : Nat) (t : List Nd) (hR : RightP t) (ad : Option Addr) (c2 : Nat) (l : List Int) (ns : List Nat) (ho : OrdP t.length l ns) (hl : l.length ≤ 2147483647) (hlen : ns.length ≤ 200) (w : World) (h : NSl w w.heap.size a t) (hi : ISl w w.heap.size ad l) :
    Calls Try.prog 37 #[.slice a t.length c, .slice ad l.length c2] w (TwoPost (upN ns.length) (toI ns) w) := by
  have hb0 : Below w.heap.size w ((w.alloc (.cells #[.slice none 0 0] 37)).alloc (.cells #[.slice none 0 0] 37)) := ((Below.refl _ _).alloc (Nat.le_refl _) _).alloc (by simp) _
  have HC := Lib.hid (chosen_any a c t hR ad c2 l ns ho hl _ (h.up hb0) (hi.up hb0))
  have k0 : ((w.alloc (.cells #[.slice none 0 0] 37)).alloc (.cells #[.slice none 0 0] 37)).heap[w.heap.size]? = some (.cells #[.slice none 0 0] 37 (0, 0)) := by
    rw [Below.heap_alloc _ _ _ (by simp), heap_alloc_new]
  have k1 : ((w.alloc (.cells #[.slice none 0 0] 37)).alloc (.cells #[.slice none 0 0] 37)).heap[w.heap.size + 1]? = some (.cells #[.slice none 0 0] 37 (0, 0)) := by
    have := heap_alloc_new (w.alloc (.cells #[.slice none 0 0] 37)) (.cells #[.slice none 0 0] 37)
    simpa using this
  have ks : ((w.alloc (.cells #[.slice none 0 0] 37)).alloc (.cells #[.slice none 0 0] 37)).heap.size = w.heap.size + 2 := by simp
  have HB0 := Lib.hid hb0
  have HO := Lib.hid ho.lt
  have hle := hR.le
  clear h hi ho hb0 hR
  refine (callsIn_wide (n := 3)).1 ?_
  refine callsIn_of_wp_marks Try.func37 rfl trivial ?_
  simp only [Try.ntmps37, List.size_toArray, List.length_cons, List.length_nil, Nat.reduceAdd, Nat.reduceSub, Array.replicate_succ, Array.replicate_zero, List.push_toArray, List.append_toArray, List.nil_append, List.cons_append]
  gi_wp2
  generalize hW0 : (w.alloc (.cells #[.slice none 0 0] 37)).alloc (.cells #[.slice none 0 0] 37) = W0 at *
  clear hW0
  refine ⟨trivial, CallsIn.mono ((callsIn_wide (n := 2)).2 HC.out) ?_⟩
  rintro e w1 ⟨L, bl, st, g, doc, rfl, hL, hT, hs, hb1⟩
  have HB1 := Lib.hid hb1
  have HL := Lib.hid hL
  have HT := Lib.hid hT
  have HS := Lib.hid hs
  have hs1 := hb1.size
  clear hb1 hL hT hs HC
  gi_wp2
  obtain ⟨Wg, hWg⟩ : ∃ Wg, Wg = w1.alloc (.cells #[.slice (some ⟨L, 0, none⟩) t.length t.length] 86) := ⟨_, rfl⟩
  rw [← hWg]
  have hbg : Below w1.heap.size w1 Wg := by rw [hWg]; exact (Below.refl _ _).alloc (Nat.le_refl _) _
  have hga : Wg.cell? ⟨w1.heap.size, 0, none⟩ = some (.slice (some ⟨L, 0, none⟩) t.length t.length) := by rw [hWg, World.cell?_alloc_mark]; rfl
  have hgs : Wg.heap.size = w1.heap.size + 1 := by rw [hWg]; simp
  refine ⟨trivial, CallsIn.mono ((callsIn_wide (n := 2)).2 (eachIterF_any g Wg)) ?_⟩
  rintro e w2 ⟨rfl, rfl⟩
  obtain ⟨wl, hwl⟩ : ∃ wl, wl = Wg.alloc (.cells #[.pointer (some ⟨g, 0, none⟩)] 74) := ⟨_, rfl⟩
  rw [← hwl]
  have hbl : Below Wg.heap.size Wg wl := by rw [hwl]; exact (Below.refl _ _).alloc (Nat.le_refl _) _
  have hBs : wl.cell? ⟨Wg.heap.size, 0, none⟩ = some (.pointer (some ⟨g, 0, none⟩)) := by rw [hwl, World.cell?_alloc_mark]; rfl
  have hls : wl.heap.size = Wg.heap.size + 1 := by rw [hwl]; simp
  clear hwl
  have hgal : wl.cell? ⟨w1.heap.size, 0, none⟩ = some (.slice (some ⟨L, 0, none⟩) t.length t.length) := (hbl.cell (p := ⟨w1.heap.size, 0, none⟩) (by show w1.heap.size < _; omega)).trans hga
  obtain ⟨a', c', hEW⟩ := eachW_of (gn := w.heap.size) (gl := w.heap.size + 1) HT.out HS.out (by omega) (by omega) (bnext hbg hbl) hgal (by omega) (by omega)
  have hkeep : ∀ b, b < W0.heap.size → wl.heap[b]? = W0.heap[b]? := fun b hb => (hbl.block b (by omega)).trans ((hbg.block b (by omega)).trans (HB1.out.block b hb))
  have hI0 : IterI wl w.heap.size (w.heap.size + 1) ns 0 wl := ⟨tells_nil ((hkeep _ (by omega)).trans k0) ((hkeep _ (by omega)).trans k1), Tell.refl _ _ _ _⟩
  have HBl : Hid (Below w.heap.size w wl) := HB0.out.trans ((HB1.out.mono (by omega)).trans ((hbg.mono (by omega)).trans (hbl.mono (by omega))))
  have HEW : Hid (∀ k W, IterI wl w.heap.size (w.heap.size + 1) ns k W → EachW bl t.length L w1.heap.size g a' c' doc ns W ∧ W.cell? ⟨Wg.heap.size, 0, none⟩ = some (.pointer (some ⟨g, 0, none⟩))) :=
    fun k W hW => ⟨hEW W hW.2, (hW.2.cell (p := ⟨Wg.heap.size, 0, none⟩) (by show Wg.heap.size < _; omega) (by show Wg.heap.size ≠ _; omega) (by show Wg.heap.size ≠ _; omega)).trans hBs⟩
  have HI0 := Lib.hid hI0
  have HLl : Hid (L < w1.heap.size) := HL
  have HNl : Hid (∀ i, i < t.length → bl i < w1.heap.size) := fun i hi => HT.out.nodes.lt i hi
  have Hgs := Lib.hid hgs
  have Hls := Lib.hid hls
  have hga0 : w.heap.size < w1.heap.size := by omega
  have Hg1 : Hid (w.heap.size + 1 < wl.heap.size) := by unfold Hid; omega
  have Hgb : Hid (w1.heap.size < wl.heap.size) := by unfold Hid; omega
  clear hWg hbg hga hEW hkeep k0 k1 hbl hBs hgal hI0 hgs hls ks
  gi_wp2
  refine range_each (by omega) Wg.heap.size g bl t.length L w1.heap.size a' c' doc ns hlen rfl rfl (IterI wl w.heap.size (w.heap.size + 1) ns) HEW.out (fun k W W' h hb => h.up hb) (fun k W o h _ => h.put (by have := Hg1.out; omega) Hg1.out o) HI0.out ?a1 ?assign ?body ?done
  case a1 => exact fun k gs => { tmps := #[.slice a t.length c, .slice ad l.length c2, undef, undef, .pointer (some ⟨w.heap.size, 0, none⟩), .pointer (some ⟨w.heap.size + 1, 0, none⟩), .bool false, .pointer (some ⟨g, 0, none⟩), .pointer (some ⟨w1.heap.size, 0, none⟩), .bool true, .int .i64 k, .pointer (some ⟨gs, 0, none⟩), .tuple #[.pointer (some ⟨g, 0, none⟩), .slice (some ⟨L, 0, none⟩) t.length t.length, .bool true], .slice a t.length c, .slice ad l.length c2, .tuple #[.pointer (some ⟨g, 0, none⟩), .slice (some ⟨L, 0, none⟩) t.length t.length, .bool true], .pointer (some ⟨g, 0, none⟩), .slice (some ⟨L, 0, none⟩) t.length t.length, .bool true, .bool true, .bool false, .pointer (some ⟨g, 0, none⟩), .func (.func 116) #[] #[.pointer (some ⟨Wg.heap.size, 0, none⟩)], .int .i64 k, .pointer (some ⟨gs, 0, none⟩), undef, undef, undef, undef, undef, undef, undef, undef, undef, undef, undef, undef, undef, undef], defers := [] }
  case assign =>
    intro k gs W K hK
    gi_wp2
    exact hK
  case body =>
    intro k hk gs r Wk W hIk hBk hB hgsV hrV hgsc hrc
    have hE := ((HEW.out k Wk hIk).1).up hBk
    obtain ⟨hT, hTl0⟩ := hIk
    have HTl0 := Lib.hid hTl0
    have HBk := Lib.hid hBk
    have hls2 : w.heap.size + 1 < wl.heap.size := Hg1.out
    have hgaB : w1.heap.size < wl.heap.size + 2 := by have := Hgb.out; omega
    have hLB : L < wl.heap.size + 2 := by have := HLl.out; have := Hgb.out; omega
    have hNB : ∀ i, i < t.length → bl i < wl.heap.size + 2 := fun i hi => by have := HNl.out i hi; have := Hgb.out; omega
    obtain ⟨j, hj0⟩ : ∃ j, j = ns[k] := ⟨_, rfl⟩
    have hj : j < t.length := by rw [hj0]; exact HO.out _ (List.getElem_mem hk)
    have HTake : Hid (toI (ns.take (k + 1)) = toI (ns.take k) ++ [(j : Int)]) := by rw [Hid, List.take_succ_eq_append_getElem hk, toI_snoc, hj0]
    have hga := hE.all
    have hN := hE.nodes
    have hLc := hE.list
    have hK : (upN k).length ≤ 1000 := by rw [upN_len]; omega
    have hP : (toI (ns.take k)).length ≤ 1000 := by rw [toI_length, List.length_take]; omega
    rw [← hj0] at hrc
    have hgn : w.heap.size < wl.heap.size + 2 := by omega
    have hgl : w.heap.size + 1 < wl.heap.size + 2 := by omega
    have hne : w.heap.size ≠ w.heap.size + 1 := by omega
    have hBW := hB
    have hgs := hgsc
    have hr := hrc
    have hx2 : wl.heap.size ≤ wl.heap.size + 2 := by omega
    have hTa := HTl0.out.trans (Tell.of_below (gn := w.heap.size) (gl := w.heap.size + 1) (HBk.out.mono (Nat.le_trans hx2 hB)))
    clear hE HEW HI0 HLl HNl Hgs Hls HBl HT HS HB0 HB1 HL HO hj0 hB hgsc hrc
    obtain ⟨vn, vl, hvn, hvl, hap⟩ := hT
    have HVn := Lib.hid (hvn.kept hBk)
    have HVl := Lib.hid (hvl.kept hBk)
    have hap := Lib.hid hap
    have hV := hBk.size
    have ltn : ∀ x, vn.ownBlock = some x → x < Wk.heap.size := fun x hx => (hvn.2.2.lt x hx).2
    have ltl : ∀ x, vl.ownBlock = some x → x < Wk.heap.size := fun x hx => (hvl.2.2.lt x hx).2
    have hB : (wl.heap.size + 2) ≤ W.heap.size := by omega
    have hrl : r < W.heap.size := World.block_lt_of_cell? W _ hr
    have hgsl : gs < W.heap.size := World.block_lt_of_cell? W _ hgs
    have HA : Hid (Below W.heap.size W (W.drew.alloc (.cells #[.int .i64 (k : Int)] 3))) := ((Below.refl _ _).drew).alloc (Nat.le_refl _) _
    have cn : W.drew.cell? ⟨w.heap.size, 0, none⟩ = some vn := HVn.out.cell
    have cl : W.drew.cell? ⟨(w.heap.size + 1), 0, none⟩ = some vl := HVl.out.cell
    have ca : W.drew.cell? ⟨w1.heap.size, 0, none⟩ = some (.slice (some ⟨L, 0, none⟩) t.length t.length) := hga
    have cs : W.drew.cell? ⟨gs, 0, none⟩ = some (.slice (some ⟨r, 0, none⟩) 1 1) := hgs
    have hcell : ∀ x v, x < W.heap.size → W.drew.cell? ⟨x, 0, none⟩ = some v → (W.drew.alloc (.cells #[.int .i64 (k : Int)] 3)).cell? ⟨x, 0, none⟩ = some v := fun x v hx hv => by rw [World.cell?_alloc_lt _ _ _ (by exact hx)]; exact hv
    have can := hcell w.heap.size _ (by omega) cn
    have cal := hcell (w.heap.size + 1) _ (by omega) cl
    have caa := hcell w1.heap.size _ (by omega) ca
    have cas := hcell gs _ hgsl cs
    have HNa : Hid ((W.drew.alloc (.cells #[.int .i64 (k : Int)] 3)).ownsRow (wl.heap.size + 2) 3 1 vn (upN k).length (ivs (upN k))) := own_kept HVn.out.2.2 (fun b _ hb => HA.out.block b hb)
    have HOne : Hid (RSl (W.drew.alloc (.cells #[.int .i64 (k : Int)] 3)) (W.drew.alloc (.cells #[.int .i64 (k : Int)] 3)).heap.size (some ⟨W.heap.size, 0, none⟩) (ivs [(k : Int)])) := RSl_one W.drew (k : Int)
    have hBa : (wl.heap.size + 2) ≤ (W.drew.alloc (.cells #[.int .i64 (k : Int)] 3)).heap.size := by have := HA.out.size; omega
    have HNd := Lib.hid hN
    have HLc := Lib.hid hLc
    obtain ⟨Wa, hWa⟩ : ∃ Wa, Wa = W.drew.alloc (.cells #[.int .i64 (k : Int)] 3) := ⟨_, rfl⟩
    have HStep1 : Hid (∀ u1, (W.drew.alloc (.cells #[.int .i64 (k : Int)] 3)).grownBy u1 vn.ownBlock → Below (wl.heap.size + 2) W u1 ∧ u1.cell? ⟨w.heap.size, 0, none⟩ = some vn ∧ u1.cell? ⟨w1.heap.size, 0, none⟩ = some (.slice (some ⟨L, 0, none⟩) t.length t.length) ∧ u1.cell? ⟨gs, 0, none⟩ = some (.slice (some ⟨r, 0, none⟩) 1 1) ∧ u1.cell? ⟨(w.heap.size + 1), 0, none⟩ = some vl ∧
        NodesAt bl t.length u1 ∧ L < u1.heap.size ∧ (∀ j, j < t.length → u1.cell? ⟨L, j, none⟩ = some (.pointer (some ⟨bl j, 0, none⟩))) ∧ RSl u1 u1.heap.size (some ⟨r, 0, none⟩) (ptrs bl [j])) := by
      intro u1 hg
      have b1 : Below (wl.heap.size + 2) W u1 := (HA.out.mono hB).trans (grown_below2 hg hBa (fun x hx => (HVn.out.2.2.lt x hx).1))
      have hx : ∀ x v, x < W.heap.size → some x ≠ vn.ownBlock → W.drew.cell? ⟨x, 0, none⟩ = some v → u1.cell? ⟨x, 0, none⟩ = some v := fun x v hx hne hv => hg.cell (hcell x v hx hv) hne
      have nb : ∀ x, x < (wl.heap.size + 2) → some x ≠ vn.ownBlock := fun x hx e => by have := (HVn.out.2.2.lt x e.symm).1; omega
      have nv : ∀ x, Wk.heap.size ≤ x → some x ≠ vn.ownBlock := fun x hx e => by have := ltn x e.symm; omega
      refine ⟨b1, hx _ _ (by omega) (nb _ hgn) cn, hx _ _ (by omega) (nb _ hgaB) ca, hx _ _ hgsl (nv _ hgsV) cs, hx _ _ (by omega) (nb _ hgl) cl, ?_, by have := b1.size; omega, fun j hj => ?_, ?_⟩
      · exact (HNd.out.kept HA.out).grown hg (fun i hi => nb _ (hNB i hi))
      · exact (b1.cell (p := ⟨L, j, none⟩) hLB).trans (HLc.out j hj)
      · refine .inr ⟨r, 0, rfl, by have := b1.size; omega, fun i hi => ?_⟩
        have e : i = 0 := by simp [ptrs] at hi; omega
        subst e
        have hc : W.drew.cell? ⟨r, 0, none⟩ = some (.pointer (some ⟨bl j, 0, none⟩)) := hr
        exact hx _ _ hrl (nv _ hrV) hc
    have HStep2 : Hid (∀ u1 u2, Below (wl.heap.size + 2) W u1 → Below u1.heap.size u1 u2 → (W.drew.alloc (.cells #[.int .i64 (k : Int)] 3)).grownBy u1 vn.ownBlock → u2.cell? ⟨(w.heap.size + 1), 0, none⟩ = some vl ∧ u2.ownsRow (wl.heap.size + 2) 3 1 vl (toI (ns.take k)).length (ivs (toI (ns.take k))) ∧ (wl.heap.size + 2) ≤ u2.heap.size) := by
      intro u1 u2 b1 b2 hg
      have hs1 := b1.size
      refine ⟨((b1.trans (b2.mono (by omega))).cell (p := ⟨(w.heap.size + 1), 0, none⟩) hgl).trans cl, ?_, by have := b2.size; omega⟩
      have o1 : u1.ownsRow (wl.heap.size + 2) 3 1 vl (toI (ns.take k)).length (ivs (toI (ns.take k))) := (own_kept HVl.out.2.2 (fun b _ hb => HA.out.block b hb)).kept hg hap.out.ne
      exact own_kept o1 (fun b _ hb => b2.block b hb)
    have HStep3 : Hid (∀ u1 u2 u3, Below (wl.heap.size + 2) W u1 → Below u1.heap.size u1 u2 → u2.grownBy u3 vl.ownBlock → u3.cell? ⟨w.heap.size, 0, none⟩ = some vn ∧ u3.frozen? ⟨w.heap.size, 0, none⟩ = false ∧ u3.cell? ⟨(w.heap.size + 1), 0, none⟩ = some vl ∧ u3.frozen? ⟨(w.heap.size + 1), 0, none⟩ = false) := by
      intro u1 u2 u3 b1 b2 hg
      have hs1 := b1.size
      have hs2 := b2.size
      have b3 : Below (wl.heap.size + 2) u2 u3 := grown_below2 hg (by omega) (fun x hx => (HVl.out.2.2.lt x hx).1)
      have bT : Below (wl.heap.size + 2) W u3 := b1.trans ((b2.mono (by omega)).trans b3)
      have q1 := (bT.block w.heap.size hgn).trans HVn.out.1
      have q2 := (bT.block (w.heap.size + 1) hgl).trans HVl.out.1
      exact ⟨by rw [cell_of_row u3 w.heap.size 0 _ _ _ q1]; rfl, frozen_of_row u3 w.heap.size 0 _ _ q1, by rw [cell_of_row u3 (w.heap.size + 1) 0 _ _ _ q2]; rfl, frozen_of_row u3 (w.heap.size + 1) 0 _ _ q2⟩
    clear hvn hvl hBk hN hLc hcell ltn ltl hWa hr hNB
    gi_wp2
    refine wpIn_region_G (G3 3 10 11 (fun w' => w'.cell? ⟨w.heap.size, 0, none⟩ = some vn) (fun w' => w'.cell? ⟨w1.heap.size, 0, none⟩ = some (.slice (some ⟨L, 0, none⟩) t.length t.length) ∧ w'.cell? ⟨gs, 0, none⟩ = some (.slice (some ⟨r, 0, none⟩) 1 1)) (fun w' => w'.cell? ⟨(w.heap.size + 1), 0, none⟩ = some vl)) (fun hx => (by obtain ⟨_, _, hy, _⟩ := hx; cases hy)) (noDefer_spec (by kernel_rfl)) (by kernel_rfl) ?_
    have hG0 : G3 3 10 11 (fun w' => w'.cell? ⟨w.heap.size, 0, none⟩ = some vn) (fun w' => w'.cell? ⟨w1.heap.size, 0, none⟩ = some (.slice (some ⟨L, 0, none⟩) t.length t.length) ∧ w'.cell? ⟨gs, 0, none⟩ = some (.slice (some ⟨r, 0, none⟩) 1 1)) (fun w' => w'.cell? ⟨(w.heap.size + 1), 0, none⟩ = some vl) (Array.replicate 14 false) W.drew := ⟨fun _ => cn, fun _ => ⟨ca, cs⟩, fun _ => cl⟩
    refine wpAnyG_take0 (i := 1) (v := ?v1) rfl (by kernel_rfl) (by kernel_rfl) (by kernel_rfl) (fun _ _ _ h => h) (fun l w => G3.set (by decide) (by decide) (by decide) l w) (Or.inl ⟨by rfl, ?hy1⟩) hG0 (fun hG1 => ?rest1)
    case hy1 => intro W' _; go_simp <;> with_reducible rfl
    clear hG0
    simp only [Act.put, List.setIfInBounds_toArray]
    refine wpAnyG_take0 (i := 6) (v := ?v6) rfl (by kernel_rfl) (by kernel_rfl) (by kernel_rfl) (fun _ _ _ h => h) (fun l w => G3.set (by decide) (by decide) (by decide) l w) (Or.inl ⟨by rfl, ?hy6⟩) hG1 (fun hG2 => ?rest6)
    case hy6 => intro W' _; go_simp <;> with_reducible rfl
    clear hG1
    simp only [Act.put]
    refine wpAnyG_take0 (i := 7) (v := ?v7) rfl (by kernel_rfl) (by kernel_rfl) (by kernel_rfl) (fun _ _ _ h => h) (fun l w => G3.set (by decide) (by decide) (by decide) l w) (Or.inl ⟨by rfl, ?hy7⟩) hG2 (fun hG3 => ?rest7)
    case hy7 => intro W' _; go_simp <;> with_reducible rfl
    clear hG2
    simp only [Act.put]
    refine wpAnyG_take0 (i := 8) (v := ?v8) rfl (by kernel_rfl) (by kernel_rfl) (by kernel_rfl) (fun _ _ _ h => h) (fun l w => G3.set (by decide) (by decide) (by decide) l w) (Or.inl ⟨by rfl, ?hy8⟩) hG3 (fun hG4 => ?rest8)
    case hy8 => intro W' _; go_simp <;> with_reducible rfl
    clear hG3
    simp only [Act.put]
    refine wpAnyG_take (i := 0) (f := 3) (v := ?v0) rfl (by kernel_rfl) (by kernel_rfl) (by kernel_rfl) (by kernel_rfl) rfl rfl (fun _ _ _ h => h) (fun _ _ h g => g.1 h) (fun l w => G3.set (by decide) (by decide) (by decide) l w) (Or.inl ⟨by rfl, ?hy0⟩) hG4 (fun hG5 => ?rest0)
    case hy0 => intro W' hS; (try dsimp only at hS); go_simp <;> with_reducible rfl
    clear hG4
    simp only [Act.put]
    refine wpAnyG_take (i := 4) (f := 11) (v := ?v4) rfl (by kernel_rfl) (by kernel_rfl) (by kernel_rfl) (by kernel_rfl) rfl rfl (fun _ _ _ h => h) (fun _ _ h g => g.2.2 h) (fun l w => G3.set (by decide) (by decide) (by decide) l w) (Or.inl ⟨by rfl, ?hy4⟩) hG5 (fun hG6 => ?rest4)
    case hy4 => intro W' hS; (try dsimp only at hS); go_simp <;> with_reducible rfl
    clear hG5
    simp only [Act.put]
    refine wpAnyG_take (i := 5) (f := 10) (v := ?v5) rfl (by kernel_rfl) (by kernel_rfl) (by kernel_rfl) (by kernel_rfl) rfl rfl (fun _ _ _ h => h) (fun _ _ h g => g.2.1 h) (fun l w => G3.set (by decide) (by decide) (by decide) l w) (Or.inl ⟨by rfl, ?hy5⟩) hG6 (fun hG7 => ?rest5)
    case hy5 => intro W' hS; (try dsimp only at hS); go_simp <;> with_reducible rfl
    clear hG6
    simp only [Act.put]
    refine wpAnyG_take (i := 9) (f := 10) (v := ?v9) rfl (by kernel_rfl) (by kernel_rfl) (by kernel_rfl) (by kernel_rfl) rfl rfl (fun _ _ _ h => h) (fun _ _ h g => g.2.1 h) (fun l w => G3.set (by decide) (by decide) (by decide) l w) (Or.inl ⟨by rfl, ?hy9⟩) hG7 (fun hG8 => ?rest9)
    case hy9 => intro W' hS; (try dsimp only at hS); go_simp <;> with_reducible rfl
    clear hG7
    simp only [Act.put]
    refine wpAnyG_one (i := 2) (by kernel_rfl) rfl (fun K' hK => ?_)
    go_simp
    refine hK.out _ _ ⟨fun _ => can, fun _ => ⟨caa, cas⟩, fun _ => cal⟩ (fun hG9 => ?_); clear hK K' hG8 hG9
    refine wpAnyG_one (i := 3) (by kernel_rfl) rfl (fun K' hK => ?_)
    refine step_append_ints _ rfl (.tmp 25) (.tmp 27) rfl (wl.heap.size + 2) vn (upN k) rfl HNa.out (some ⟨W.heap.size, 0, none⟩) 1 [(k : Int)] rfl HOne.out (by simp; omega) hBa ?_
    intro a1 c1 u1 hown1 hg1 hat1
    obtain ⟨b1, d1n, d1a, d1s, d1l, hN1, hL1, hC1, hR1⟩ := HStep1.out u1 hg1
    refine hK.out _ _ ⟨fun h => absurd h (by decide), fun _ => ⟨d1a, d1s⟩, fun _ => d1l⟩ (fun hG9 => ?_); clear hK K' hG9
    have HP := Lib.hid (placesOf_any bl t.length L hle [j] (by intro x hx; rw [List.mem_singleton] at hx; subst hx; exact hj) (by simp) (some ⟨r, 0, none⟩) 1 u1 hL1 hN1 hC1 hR1)
    have HO1 := Lib.hid hown1
    have HG1 := Lib.hid hg1
    have HAt1 := Lib.hid hat1
    clear hown1 hg1 hat1 hN1 hL1 hC1 hR1 d1a d1s d1n
    refine wpAnyG_one (i := 10) (by kernel_rfl) rfl (fun K' hK => ?_)
    go_simp
    go_at_call 78
    refine HP.out.mono ?_
    rintro e u2 ⟨v2, rfl, ⟨a', c', rfl, hown'⟩, hb2⟩
    obtain ⟨hl2, hr2, hB2⟩ := HStep2.out u1 u2 b1 hb2 HG1.out
    have hrs : RSl u2 u2.heap.size a' (ivs (toI [j])) := by obtain ⟨q1, q2, hv, _, hrs⟩ := RSl.own hown'; cases hv; exact hrs
    have HB2 := Lib.hid hb2
    have HRs := Lib.hid hrs
    clear hown' hb2 hrs
    refine hK.out _ _ ⟨fun h => absurd h (by decide), fun h => absurd h (by decide), fun _ => hl2⟩ (fun hG9 => ?_); clear hK K' hG9
    refine wpAnyG_one (i := 11) (by kernel_rfl) rfl (fun K' hK => ?_)
    refine step_append_ints _ rfl (.tmp 29) (.tmp 35) rfl (wl.heap.size + 2) vl (toI (ns.take k)) rfl hr2 a' c' (toI [j]) rfl HRs.out (by rw [show (toI [j]).length = 1 from rfl]; omega) hB2 ?_
    intro a2 c2 u3 hown2 hg2 hat2
    obtain ⟨hT, hTl⟩ := tells_step HVn.out HVl.out hap.out hgn hgl hne hB HA.out HO1.out HG1.out HAt1.out HB2.out hown2 hg2 hat2
    obtain ⟨e1, e2, e3, e4⟩ := HStep3.out u1 u2 u3 b1 HB2.out hg2
    have HT := Lib.hid hT
    have HTl := Lib.hid hTl
    clear hown2 hg2 hat2 hT hTl
    refine hK.out _ _ ⟨fun h => absurd h (by decide), fun h => absurd h (by decide), fun h => absurd h (by decide)⟩ (fun hG9 => ?_); clear hK K' hG9
    refine wpAnyG_one (i := 12) (by kernel_rfl) rfl (fun K' hK => ?_)
    go_simp
    refine hK.out _ _ ⟨fun h => absurd h (by decide), fun h => absurd h (by decide), fun h => absurd h (by decide)⟩ (fun hG9 => ?_); clear hK K' hG9
    refine wpAnyG_one (i := 13) (by kernel_rfl) rfl (fun K' hK => ?_)
    go_simp
    refine hK.out _ _ ⟨fun h => absurd h (by decide), fun h => absurd h (by decide), fun h => absurd h (by decide)⟩ (fun hG9 => ?_); clear hK K' hG9
    refine wpAnyG_done (by kernel_rfl) ?_ _
    refine ⟨rfl, ⟨?_, ?_⟩, ?_, ?_⟩
    · have := HT.out; rw [upN_succ, HTake.out]; simpa [toI] using this
    · have h3 := hTa.trans (HTl.out.low hx2); simpa [toI] using h3
    · have h5 := HTl.out.block wl.heap.size (by omega) (by omega) (by omega); simpa [toI] using h5
    · have h5 := HTl.out.block (wl.heap.size + 1) (by omega) (by omega) (by omega); simpa [toI] using h5
  case done =>
    rintro W ⟨⟨vn, vl, ⟨n1, ⟨an, cn, rfl⟩, n3⟩, ⟨l1, ⟨al, cl, rfl⟩, l3⟩, _⟩, hTl⟩ hK
    have HF : Hid (Below w.heap.size w W) := HBl.out.trans (hTl.below (by have := Hg1.out; omega) (Nat.le_refl _) (by omega))
    have HN3 := Lib.hid n3
    have HL3 := Lib.hid l3
    have d1 := cell_of_row W _ 0 _ _ _ n1
    have d2 := frozen_of_row W _ 0 _ _ n1
    have d3 := cell_of_row W _ 0 _ _ _ l1
    have d4 := frozen_of_row W _ 0 _ _ l1
    rw [List.take_length] at d3 HL3
    simp only [List.getElem?_toArray, List.getElem?_cons_zero] at d1 d3
    have HK := Lib.hid hK
    clear n3 l3 hTl n1 l1 hK
    gi_wp2
    gi_region
    all_goals gi_wp2
    obtain ⟨Wf, hWf⟩ : ∃ Wf, Wf = ((W.setCell ⟨w.heap.size, 0, none⟩ (.slice an (upN ns.length).length cn)).setCell ⟨w.heap.size + 1, 0, none⟩ (.slice al (toI ns).length cl)).drew := ⟨_, rfl⟩
    have hg1 := Hg1.out
    have f1 : Wf.cell? ⟨w.heap.size, 0, none⟩ = some (.slice an (upN ns.length).length cn) := by rw [hWf]; exact cell_after (by omega) W _ _ d1
    have f2 : Wf.cell? ⟨w.heap.size + 1, 0, none⟩ = some (.slice al (toI ns).length cl) := by
      rw [hWf]
      exact World.cell?_setCell_same _ _ _ (by rw [World.cell?_setCell_far _ _ _ _ (by show w.heap.size ≠ w.heap.size + 1; omega)]; exact d3)
    have hbf : Below w.heap.size w Wf := by rw [hWf]; exact ((HF.out.setCell (Nat.le_refl _) _).setCell (by show _ ≤ w.heap.size + 1; omega) _).drew
    have hKf : Wf.heap[wl.heap.size]? = some (.deferred (some [])) := by
      rw [hWf]
      exact ((Below.heap_setCell _ _ _ _ (by show wl.heap.size ≠ w.heap.size + 1; omega)).trans (Below.heap_setCell _ _ _ _ (by show wl.heap.size ≠ w.heap.size; omega))).trans HK.out
    have on : Wf.ownsRow (wl.heap.size + 2) 3 1 (.slice an (upN ns.length).length cn) (upN ns.length).length (ivs (upN ns.length)) := by
      rw [hWf]
      exact ownsRow_setCell_below (ownsRow_setCell_below HN3.out (by show w.heap.size < _; omega) _) (by show w.heap.size + 1 < _; omega) _
    have ol : Wf.ownsRow (wl.heap.size + 2) 3 1 (.slice al (toI ns).length cl) (toI ns).length (ivs (toI ns)) := by
      rw [hWf]
      exact ownsRow_setCell_below (ownsRow_setCell_below HL3.out (by show w.heap.size < _; omega) _) (by show w.heap.size + 1 < _; omega) _
    rw [← hWf]
    have hb2 : Below w.heap.size w (Wf.putObj wl.heap.size (.deferred none)) := hbf.trans (belowK_b (w := w) (Nat.le_refl _) Wf wl.heap.size _ _ (by omega) hKf rfl rfl)
    have p1 : (Wf.putObj wl.heap.size (.deferred none)).cell? ⟨w.heap.size, 0, none⟩ = some (.slice an (upN ns.length).length cn) := (World.cell?_of_block (a := ⟨w.heap.size, 0, none⟩) (World.putObj_heap_other (by show w.heap.size ≠ wl.heap.size; omega))).trans f1
    have p2 : (Wf.putObj wl.heap.size (.deferred none)).cell? ⟨w.heap.size + 1, 0, none⟩ = some (.slice al (toI ns).length cl) := (World.cell?_of_block (a := ⟨w.heap.size + 1, 0, none⟩) (World.putObj_heap_other (by show w.heap.size + 1 ≠ wl.heap.size; omega))).trans f2
    have on2 := own_kept (w' := Wf.putObj wl.heap.size (.deferred none)) on (fun b hb _ => World.putObj_heap_other (by omega))
    have ol2 := own_kept (w' := Wf.putObj wl.heap.size (.deferred none)) ol (fun b hb _ => World.putObj_heap_other (by omega))
    refine ⟨by simp, .inl ⟨_, _, rfl, run_takeDeferred hKf, ?_⟩⟩
    refine ⟨_, results_two rfl _ _ w.heap.size (w.heap.size + 1) _ _ rfl rfl p1 p2, ?_⟩
    obtain ⟨_, _, hv1, _, r1⟩ := RSl.own on2
    cases hv1
    obtain ⟨_, _, hv2, _, r2⟩ := RSl.own ol2
    cases hv2
    exact ⟨an, cn, al, cl, rfl, r1, r2, hb2⟩
end Go.Proofs.Ytgilbckfkngaiaa

